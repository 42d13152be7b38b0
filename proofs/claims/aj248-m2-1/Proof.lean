import JvmDerived
import JvmDerived.Pilot.@@N@@Statement
import JvmDerived.Pilot.@@N@@Code
set_option linter.unusedVariables false
set_option linter.unusedSimpArgs false
@@BLOCK:NumsL.lean.txt@@
namespace Jvm.Pilot.@@N@@
open Jvm Jvm.ClassFile Sem Op Lib Jvm.Free Jvm.Stand Jvm.LawKit Jvm.RoadKit Bundle Jvm.Pilot.@@N@@.Jvm.D
/-! ## The walk layer: where a walk stands (On), what is fixed in it (Cx), the goal (Gl), a method's contract (Con) -/
def On (p : Program) (l : Launch) (e : Env) (R : Room) (s : State) (m : MethodId) (args : Array Value) (below : List Frame) (meth : Method) (c : Code) (n0 : Nat) (T : State) (h : Heap) (k n : Nat) : Prop :=
  ∃ locs, Stand p l e R s m args below meth c T locs k n ∧ Fr n0 locs ∧ T.heap = h
def Cx (p : Program) (s : State) (m : MethodId) (meth : Method) (c : Code) (Z : State) (own name : String) (cod : ByteArray) (maxL : Nat) (ret : Option FieldType) : Prop :=
  p.tables.exec = Jvm.exec ∧ Z.Warmed39 s.vm ∧ c.code = cod ∧ c.maxLocals = maxL ∧ s.vm.findClass own = some m.cls ∧ meth.name = name ∧ meth.sig.returnType = ret ∧ meth.locks = false
def Gl (p : Program) (e : Env) (below : List Frame) (s : State) (R : Room) (n0 : Nat) (Q : Option Value → Heap → Prop) (T : State) (g : JFrame) : Prop :=
  ∃ s₂ o, Steps p.tables e below (T.setTop g) s₂ ∧ s₂.status = .running ∧ Ended s₂ below o ∧ ∃ v L, o = .returned v ∧ (Q v s₂.heap ∧ Fr n0 L) ∧ FrameEnd s o s₂ L R.cells R.slots
def Con (l : Launch) (Z : State) (y : MethodName) (cod : ByteArray) (maxL : Nat) (ret : Option FieldType) (rm : Room) (as : Array Value) (h0 : Heap) (n0 : Nat) (Q : Option Value → Heap → Prop) : Prop :=
  ∀ ws, MetFree l y (head1 (Jvm.Cond.code y cod maxL ret :: ws) rm) (fun a U => a = as ∧ Z.Warmed39 U.vm ∧ U.heap = h0) (fun _ _ _ _ _ => True) (fun _ U o U' => ∃ v L, o = .returned v ∧ (Q v U'.heap ∧ Fr n0 L) ∧ FrameEnd U o U' L rm.cells rm.slots)
section OwnKit
variable {p : Program} {l : Launch} {e : Env} {R : Room} {s : State} {m : MethodId} {args : Array Value} {below : List Frame} {meth : Method} {c : Code} {Z : State} {a0 : Array Value} {n0 : Nat} {T : State} {h h' h0 : Heap} {k n : Nat} {own name : String} {cod : ByteArray} {maxL : Nat} {ret : Option FieldType} {Q : Option Value → Heap → Prop} {pc pc' pf : Nat} {L L' : Array Slot} {r : List Value} {a b : Addr}
theorem Gl.st {T' : State} {g g' : JFrame} (kk : Gl p e below s R n0 Q T' g') (hs : ∀ t, Steps p.tables e below (T'.setTop g') t → Steps p.tables e below (T.setTop g) t) : Gl p e below s R n0 Q T g := by
  obtain ⟨s2, o, h1, q⟩ := kk; exact ⟨s2, o, hs _ h1, q⟩
theorem Con.of {y : MethodName} {rm : Room} {as : Array Value} (hpl : plainFor y = true) {L0 : Array Slot} (hef : ∀ m, entryFrame m as maxL = mkF m 0 L0 [])
    (body : ∀ (p : Program) (e : Env) (s : State) (m : MethodId) (below : List Frame) (meth : Method) (c : Code) (T : State), Cx p s m meth c Z y.cls y.name cod maxL ret → On p l e rm s m as below meth c n0 T h0 0 0 → Gl p e below s rm n0 Q T (mkF m 0 L0 [])) :
    Con l Z y cod maxL ret rm as h0 n0 Q := by
  intro ws
  refine MetFree.of_bodySF hpl hisR ?_
  intro p e s m args below meth c s₁ Bd hml0 hP hK
  obtain ⟨rfl, hZ, hh⟩ := hP
  have e0 : s₁.heap = h0 := by rw [← hh, Bd.state]; rfl
  have q := body p e s m below meth c s₁ ⟨Bd.exec, hZ, Bd.bytes, hml0, findClass_of_methodNamed Bd.named, (name_of_methodNamed Bd.named Bd.method).1, Bd.returns, Bd.notSynchronized⟩ ⟨[], Stand.of_body Bd, Fr.nil n0, e0⟩
  rw [← hef m] at q
  exact q
theorem Con.imp {y : MethodName} {rm : Room} {as : Array Value} {Q' : Option Value → Heap → Prop} (K : Con l Z y cod maxL ret rm as h0 n0 Q) (hq : ∀ v h, Q v h → Q' v h) : Con l Z y cod maxL ret rm as h0 n0 Q' := by
  intro ws p e ha hc hk s m args below hf happ hP hK
  obtain ⟨n, o, h1, h2, h3, v, L, h4, ⟨h5, h6⟩, h7⟩ := K ws p e ha hc hk s m args below hf happ hP hK
  exact ⟨n, o, h1, h2, h3, v, L, h4, ⟨hq _ _ h5, h6⟩, h7⟩
theorem g_iload (C : Cx p s m meth c Z own name cod maxL ret) (S : On p l e R s m args below meth c n0 T h k n) {i : Nat} {v : Int32} (hd : decode cod pc = .ok (.iload i, 2)) (hp : pc + 2 = pc') (hl : L[i]? = some (.val (.int v))) (kk : Gl p e below s R n0 Q T (mkF m pc' L (.int v :: r))) : Gl p e below s R n0 Q T (mkF m pc L r) := by
  obtain ⟨locs, X, -⟩ := S; subst hp
  exact kk.st fun _ q => XS.iload X.here C.1 rfl (hb C.2.2.1 hd) hl q
theorem g_iloadN (C : Cx p s m meth c Z own name cod maxL ret) (S : On p l e R s m args below meth c n0 T h k n) {i : Fin 4} {v : Int32} (hd : decode cod pc = .ok (.iload_n i, 1)) (hp : pc + 1 = pc') (hl : L[i.val]? = some (.val (.int v))) (kk : Gl p e below s R n0 Q T (mkF m pc' L (.int v :: r))) : Gl p e below s R n0 Q T (mkF m pc L r) := by
  obtain ⟨locs, X, -⟩ := S; subst hp
  exact kk.st fun _ q => XS.iloadN X.here C.1 rfl (hb C.2.2.1 hd) hl q
theorem g_istore (C : Cx p s m meth c Z own name cod maxL ret) (S : On p l e R s m args below meth c n0 T h k n) {i : Nat} {v : Int32} (hd : decode cod pc = .ok (.istore i, 2)) (hp : pc + 2 = pc') (hl : storeLocals L i (.int v) = some L') (kk : Gl p e below s R n0 Q T (mkF m pc' L' r)) : Gl p e below s R n0 Q T (mkF m pc L (.int v :: r)) := by
  obtain ⟨locs, X, -⟩ := S; subst hp
  exact kk.st fun _ q => XS.istore X.here C.1 rfl (hb C.2.2.1 hd) rfl hl q
theorem g_istoreN (C : Cx p s m meth c Z own name cod maxL ret) (S : On p l e R s m args below meth c n0 T h k n) {i : Fin 4} {v : Int32} (hd : decode cod pc = .ok (.istore_n i, 1)) (hp : pc + 1 = pc') (hl : storeLocals L i.val (.int v) = some L') (kk : Gl p e below s R n0 Q T (mkF m pc' L' r)) : Gl p e below s R n0 Q T (mkF m pc L (.int v :: r)) := by
  obtain ⟨locs, X, -⟩ := S; subst hp
  exact kk.st fun _ q => XS.istoreN X.here C.1 rfl (hb C.2.2.1 hd) rfl hl q
theorem g_lload (C : Cx p s m meth c Z own name cod maxL ret) (S : On p l e R s m args below meth c n0 T h k n) {i : Nat} {v : Int64} (hd : decode cod pc = .ok (.lload i, 2)) (hp : pc + 2 = pc') (hl : L[i]? = some (.val (.long v))) (kk : Gl p e below s R n0 Q T (mkF m pc' L (.long v :: r))) : Gl p e below s R n0 Q T (mkF m pc L r) := by
  obtain ⟨locs, X, -⟩ := S; subst hp
  exact kk.st fun _ q => XS.lload X.here C.1 rfl (hb C.2.2.1 hd) hl q
theorem g_lloadN (C : Cx p s m meth c Z own name cod maxL ret) (S : On p l e R s m args below meth c n0 T h k n) {i : Fin 4} {v : Int64} (hd : decode cod pc = .ok (.lload_n i, 1)) (hp : pc + 1 = pc') (hl : L[i.val]? = some (.val (.long v))) (kk : Gl p e below s R n0 Q T (mkF m pc' L (.long v :: r))) : Gl p e below s R n0 Q T (mkF m pc L r) := by
  obtain ⟨locs, X, -⟩ := S; subst hp
  exact kk.st fun _ q => XS.lloadN X.here C.1 rfl (hb C.2.2.1 hd) hl q
theorem g_lstore (C : Cx p s m meth c Z own name cod maxL ret) (S : On p l e R s m args below meth c n0 T h k n) {i : Nat} {v : Int64} (hd : decode cod pc = .ok (.lstore i, 2)) (hp : pc + 2 = pc') (hl : storeLocals L i (.long v) = some L') (kk : Gl p e below s R n0 Q T (mkF m pc' L' r)) : Gl p e below s R n0 Q T (mkF m pc L (.long v :: r)) := by
  obtain ⟨locs, X, -⟩ := S; subst hp
  exact kk.st fun _ q => XS.lstore X.here C.1 rfl (hb C.2.2.1 hd) rfl hl q
theorem g_lstoreN (C : Cx p s m meth c Z own name cod maxL ret) (S : On p l e R s m args below meth c n0 T h k n) {i : Fin 4} {v : Int64} (hd : decode cod pc = .ok (.lstore_n i, 1)) (hp : pc + 1 = pc') (hl : storeLocals L i.val (.long v) = some L') (kk : Gl p e below s R n0 Q T (mkF m pc' L' r)) : Gl p e below s R n0 Q T (mkF m pc L (.long v :: r)) := by
  obtain ⟨locs, X, -⟩ := S; subst hp
  exact kk.st fun _ q => XS.lstoreN X.here C.1 rfl (hb C.2.2.1 hd) rfl hl q
theorem g_aload (C : Cx p s m meth c Z own name cod maxL ret) (S : On p l e R s m args below meth c n0 T h k n) {i : Nat} {v : Value} (hd : decode cod pc = .ok (.aload i, 2)) (hp : pc + 2 = pc') (hl : L[i]? = some (.val v)) (hv : v.isRef = true) (kk : Gl p e below s R n0 Q T (mkF m pc' L (v :: r))) : Gl p e below s R n0 Q T (mkF m pc L r) := by
  obtain ⟨locs, X, -⟩ := S; subst hp
  exact kk.st fun _ q => XS.aload X.here C.1 rfl (hb C.2.2.1 hd) hl hv q
theorem g_aloadN (C : Cx p s m meth c Z own name cod maxL ret) (S : On p l e R s m args below meth c n0 T h k n) {i : Fin 4} {v : Value} (hd : decode cod pc = .ok (.aload_n i, 1)) (hp : pc + 1 = pc') (hl : L[i.val]? = some (.val v)) (hv : v.isRef = true) (kk : Gl p e below s R n0 Q T (mkF m pc' L (v :: r))) : Gl p e below s R n0 Q T (mkF m pc L r) := by
  obtain ⟨locs, X, -⟩ := S; subst hp
  exact kk.st fun _ q => XS.aloadN X.here C.1 rfl (hb C.2.2.1 hd) hl hv q
theorem g_astore (C : Cx p s m meth c Z own name cod maxL ret) (S : On p l e R s m args below meth c n0 T h k n) {i : Nat} {v : Value} (hd : decode cod pc = .ok (.astore i, 2)) (hp : pc + 2 = pc') (hv : v.isRef = true) (hl : storeLocals L i v = some L') (kk : Gl p e below s R n0 Q T (mkF m pc' L' r)) : Gl p e below s R n0 Q T (mkF m pc L (v :: r)) := by
  obtain ⟨locs, X, -⟩ := S; subst hp
  exact kk.st fun _ q => XS.astore X.here C.1 rfl (hb C.2.2.1 hd) rfl hv hl q
theorem g_astoreN (C : Cx p s m meth c Z own name cod maxL ret) (S : On p l e R s m args below meth c n0 T h k n) {i : Fin 4} {v : Value} (hd : decode cod pc = .ok (.astore_n i, 1)) (hp : pc + 1 = pc') (hv : v.isRef = true) (hl : storeLocals L i.val v = some L') (kk : Gl p e below s R n0 Q T (mkF m pc' L' r)) : Gl p e below s R n0 Q T (mkF m pc L (v :: r)) := by
  obtain ⟨locs, X, -⟩ := S; subst hp
  exact kk.st fun _ q => XS.astoreN X.here C.1 rfl (hb C.2.2.1 hd) rfl hv hl q
theorem g_iconst (C : Cx p s m meth c Z own name cod maxL ret) (S : On p l e R s m args below meth c n0 T h k n) {i : Int} (v : Int32) (hd : decode cod pc = .ok (.iconst i, 1)) (hp : pc + 1 = pc') (hv : Int32.ofInt i = v) (kk : Gl p e below s R n0 Q T (mkF m pc' L (.int v :: r))) : Gl p e below s R n0 Q T (mkF m pc L r) := by
  obtain ⟨locs, X, -⟩ := S; subst hp hv
  exact kk.st fun _ q => XS.iconst X.here C.1 rfl (hb C.2.2.1 hd) q
theorem g_bipush (C : Cx p s m meth c Z own name cod maxL ret) (S : On p l e R s m args below meth c n0 T h k n) {i : Int} (v : Int32) (hd : decode cod pc = .ok (.bipush i, 2)) (hp : pc + 2 = pc') (hv : (Int8.ofInt i).toInt32 = v) (kk : Gl p e below s R n0 Q T (mkF m pc' L (.int v :: r))) : Gl p e below s R n0 Q T (mkF m pc L r) := by
  obtain ⟨locs, X, -⟩ := S; subst hp hv
  exact kk.st fun _ q => XS.bipush X.here C.1 rfl (hb C.2.2.1 hd) q
theorem g_sipush (C : Cx p s m meth c Z own name cod maxL ret) (S : On p l e R s m args below meth c n0 T h k n) {i : Int} (v : Int32) (hd : decode cod pc = .ok (.sipush i, 3)) (hp : pc + 3 = pc') (hv : (Int16.ofInt i).toInt32 = v) (kk : Gl p e below s R n0 Q T (mkF m pc' L (.int v :: r))) : Gl p e below s R n0 Q T (mkF m pc L r) := by
  obtain ⟨locs, X, -⟩ := S; subst hp hv
  exact kk.st fun _ q => XS.sipush X.here C.1 rfl (hb C.2.2.1 hd) q
theorem g_lconst (C : Cx p s m meth c Z own name cod maxL ret) (S : On p l e R s m args below meth c n0 T h k n) {i : Fin 2} (v : Int64) (hd : decode cod pc = .ok (.lconst i, 1)) (hp : pc + 1 = pc') (hv : Int64.ofNat i = v) (kk : Gl p e below s R n0 Q T (mkF m pc' L (.long v :: r))) : Gl p e below s R n0 Q T (mkF m pc L r) := by
  obtain ⟨locs, X, -⟩ := S; subst hp hv
  exact kk.st fun _ q => XS.lconst X.here C.1 rfl (hb C.2.2.1 hd) q
theorem g_aconst_null (C : Cx p s m meth c Z own name cod maxL ret) (S : On p l e R s m args below meth c n0 T h k n) (hd : decode cod pc = .ok (.aconst_null, 1)) (hp : pc + 1 = pc') (kk : Gl p e below s R n0 Q T (mkF m pc' L (.null :: r))) : Gl p e below s R n0 Q T (mkF m pc L r) := by
  obtain ⟨locs, X, -⟩ := S; subst hp
  exact kk.st fun _ q => XS.aconstNull X.here C.1 rfl (hb C.2.2.1 hd) q
theorem g_iadd (C : Cx p s m meth c Z own name cod maxL ret) (S : On p l e R s m args below meth c n0 T h k n) {x y : Int32} (hd : decode cod pc = .ok (.iadd, 1)) (hp : pc + 1 = pc') (kk : Gl p e below s R n0 Q T (mkF m pc' L (.int (x + y) :: r))) : Gl p e below s R n0 Q T (mkF m pc L (.int y :: .int x :: r)) := by
  obtain ⟨locs, X, -⟩ := S; subst hp
  exact kk.st fun _ q => XS.iadd X.here C.1 rfl (hb C.2.2.1 hd) rfl q
theorem g_isub (C : Cx p s m meth c Z own name cod maxL ret) (S : On p l e R s m args below meth c n0 T h k n) {x y : Int32} (hd : decode cod pc = .ok (.isub, 1)) (hp : pc + 1 = pc') (kk : Gl p e below s R n0 Q T (mkF m pc' L (.int (x - y) :: r))) : Gl p e below s R n0 Q T (mkF m pc L (.int y :: .int x :: r)) := by
  obtain ⟨locs, X, -⟩ := S; subst hp
  exact kk.st fun _ q => XS.isub X.here C.1 rfl (hb C.2.2.1 hd) rfl q
theorem g_imul (C : Cx p s m meth c Z own name cod maxL ret) (S : On p l e R s m args below meth c n0 T h k n) {x y : Int32} (hd : decode cod pc = .ok (.imul, 1)) (hp : pc + 1 = pc') (kk : Gl p e below s R n0 Q T (mkF m pc' L (.int (x * y) :: r))) : Gl p e below s R n0 Q T (mkF m pc L (.int y :: .int x :: r)) := by
  obtain ⟨locs, X, -⟩ := S; subst hp
  exact kk.st fun _ q => XS.imul X.here C.1 rfl (hb C.2.2.1 hd) rfl q
theorem g_iand (C : Cx p s m meth c Z own name cod maxL ret) (S : On p l e R s m args below meth c n0 T h k n) {x y : Int32} (hd : decode cod pc = .ok (.iand, 1)) (hp : pc + 1 = pc') (kk : Gl p e below s R n0 Q T (mkF m pc' L (.int (x &&& y) :: r))) : Gl p e below s R n0 Q T (mkF m pc L (.int y :: .int x :: r)) := by
  obtain ⟨locs, X, -⟩ := S; subst hp
  exact kk.st fun _ q => XS.iand X.here C.1 rfl (hb C.2.2.1 hd) rfl q
theorem g_ior (C : Cx p s m meth c Z own name cod maxL ret) (S : On p l e R s m args below meth c n0 T h k n) {x y : Int32} (hd : decode cod pc = .ok (.ior, 1)) (hp : pc + 1 = pc') (kk : Gl p e below s R n0 Q T (mkF m pc' L (.int (x ||| y) :: r))) : Gl p e below s R n0 Q T (mkF m pc L (.int y :: .int x :: r)) := by
  obtain ⟨locs, X, -⟩ := S; subst hp
  exact kk.st fun _ q => XS.ior X.here C.1 rfl (hb C.2.2.1 hd) rfl q
theorem g_ixor (C : Cx p s m meth c Z own name cod maxL ret) (S : On p l e R s m args below meth c n0 T h k n) {x y : Int32} (hd : decode cod pc = .ok (.ixor, 1)) (hp : pc + 1 = pc') (kk : Gl p e below s R n0 Q T (mkF m pc' L (.int (x ^^^ y) :: r))) : Gl p e below s R n0 Q T (mkF m pc L (.int y :: .int x :: r)) := by
  obtain ⟨locs, X, -⟩ := S; subst hp
  exact kk.st fun _ q => XS.ixor X.here C.1 rfl (hb C.2.2.1 hd) rfl q
theorem g_ladd (C : Cx p s m meth c Z own name cod maxL ret) (S : On p l e R s m args below meth c n0 T h k n) {x y : Int64} (hd : decode cod pc = .ok (.ladd, 1)) (hp : pc + 1 = pc') (kk : Gl p e below s R n0 Q T (mkF m pc' L (.long (x + y) :: r))) : Gl p e below s R n0 Q T (mkF m pc L (.long y :: .long x :: r)) := by
  obtain ⟨locs, X, -⟩ := S; subst hp
  exact kk.st fun _ q => XS.ladd X.here C.1 rfl (hb C.2.2.1 hd) rfl q
theorem g_lsub (C : Cx p s m meth c Z own name cod maxL ret) (S : On p l e R s m args below meth c n0 T h k n) {x y : Int64} (hd : decode cod pc = .ok (.lsub, 1)) (hp : pc + 1 = pc') (kk : Gl p e below s R n0 Q T (mkF m pc' L (.long (x - y) :: r))) : Gl p e below s R n0 Q T (mkF m pc L (.long y :: .long x :: r)) := by
  obtain ⟨locs, X, -⟩ := S; subst hp
  exact kk.st fun _ q => XS.lsub X.here C.1 rfl (hb C.2.2.1 hd) rfl q
theorem g_lmul (C : Cx p s m meth c Z own name cod maxL ret) (S : On p l e R s m args below meth c n0 T h k n) {x y : Int64} (hd : decode cod pc = .ok (.lmul, 1)) (hp : pc + 1 = pc') (kk : Gl p e below s R n0 Q T (mkF m pc' L (.long (x * y) :: r))) : Gl p e below s R n0 Q T (mkF m pc L (.long y :: .long x :: r)) := by
  obtain ⟨locs, X, -⟩ := S; subst hp
  exact kk.st fun _ q => XS.lmul X.here C.1 rfl (hb C.2.2.1 hd) rfl q
theorem g_land (C : Cx p s m meth c Z own name cod maxL ret) (S : On p l e R s m args below meth c n0 T h k n) {x y : Int64} (hd : decode cod pc = .ok (.land, 1)) (hp : pc + 1 = pc') (kk : Gl p e below s R n0 Q T (mkF m pc' L (.long (x &&& y) :: r))) : Gl p e below s R n0 Q T (mkF m pc L (.long y :: .long x :: r)) := by
  obtain ⟨locs, X, -⟩ := S; subst hp
  exact kk.st fun _ q => XS.land X.here C.1 rfl (hb C.2.2.1 hd) rfl q
theorem g_lor (C : Cx p s m meth c Z own name cod maxL ret) (S : On p l e R s m args below meth c n0 T h k n) {x y : Int64} (hd : decode cod pc = .ok (.lor, 1)) (hp : pc + 1 = pc') (kk : Gl p e below s R n0 Q T (mkF m pc' L (.long (x ||| y) :: r))) : Gl p e below s R n0 Q T (mkF m pc L (.long y :: .long x :: r)) := by
  obtain ⟨locs, X, -⟩ := S; subst hp
  exact kk.st fun _ q => XS.lor X.here C.1 rfl (hb C.2.2.1 hd) rfl q
theorem g_lxor (C : Cx p s m meth c Z own name cod maxL ret) (S : On p l e R s m args below meth c n0 T h k n) {x y : Int64} (hd : decode cod pc = .ok (.lxor, 1)) (hp : pc + 1 = pc') (kk : Gl p e below s R n0 Q T (mkF m pc' L (.long (x ^^^ y) :: r))) : Gl p e below s R n0 Q T (mkF m pc L (.long y :: .long x :: r)) := by
  obtain ⟨locs, X, -⟩ := S; subst hp
  exact kk.st fun _ q => XS.lxor X.here C.1 rfl (hb C.2.2.1 hd) rfl q
theorem g_ishl (C : Cx p s m meth c Z own name cod maxL ret) (S : On p l e R s m args below meth c n0 T h k n) {x y : Int32} (hd : decode cod pc = .ok (.ishl, 1)) (hp : pc + 1 = pc') (kk : Gl p e below s R n0 Q T (mkF m pc' L (.int (x <<< (y &&& 31)) :: r))) : Gl p e below s R n0 Q T (mkF m pc L (.int y :: .int x :: r)) := by
  obtain ⟨locs, X, -⟩ := S; subst hp
  exact kk.st fun _ q => XS.ishl X.here C.1 rfl (hb C.2.2.1 hd) rfl q
theorem g_ishr (C : Cx p s m meth c Z own name cod maxL ret) (S : On p l e R s m args below meth c n0 T h k n) {x y : Int32} (hd : decode cod pc = .ok (.ishr, 1)) (hp : pc + 1 = pc') (kk : Gl p e below s R n0 Q T (mkF m pc' L (.int (x >>> (y &&& 31)) :: r))) : Gl p e below s R n0 Q T (mkF m pc L (.int y :: .int x :: r)) := by
  obtain ⟨locs, X, -⟩ := S; subst hp
  exact kk.st fun _ q => XS.ishr X.here C.1 rfl (hb C.2.2.1 hd) rfl q
theorem g_iushr (C : Cx p s m meth c Z own name cod maxL ret) (S : On p l e R s m args below meth c n0 T h k n) {x y : Int32} (hd : decode cod pc = .ok (.iushr, 1)) (hp : pc + 1 = pc') (kk : Gl p e below s R n0 Q T (mkF m pc' L (.int ((x.toUInt32 >>> (y &&& 31).toUInt32).toInt32) :: r))) : Gl p e below s R n0 Q T (mkF m pc L (.int y :: .int x :: r)) := by
  obtain ⟨locs, X, -⟩ := S; subst hp
  exact kk.st fun _ q => XS.iushr X.here C.1 rfl (hb C.2.2.1 hd) rfl q
theorem g_lshl (C : Cx p s m meth c Z own name cod maxL ret) (S : On p l e R s m args below meth c n0 T h k n) {x : Int64} {y : Int32} (hd : decode cod pc = .ok (.lshl, 1)) (hp : pc + 1 = pc') (kk : Gl p e below s R n0 Q T (mkF m pc' L (.long (x <<< (y &&& 0x3f).toInt64) :: r))) : Gl p e below s R n0 Q T (mkF m pc L (.int y :: .long x :: r)) := by
  obtain ⟨locs, X, -⟩ := S; subst hp
  exact kk.st fun _ q => XS.lshl X.here C.1 rfl (hb C.2.2.1 hd) rfl q
theorem g_lshr (C : Cx p s m meth c Z own name cod maxL ret) (S : On p l e R s m args below meth c n0 T h k n) {x : Int64} {y : Int32} (hd : decode cod pc = .ok (.lshr, 1)) (hp : pc + 1 = pc') (kk : Gl p e below s R n0 Q T (mkF m pc' L (.long (x >>> (y &&& 0x3f).toInt64) :: r))) : Gl p e below s R n0 Q T (mkF m pc L (.int y :: .long x :: r)) := by
  obtain ⟨locs, X, -⟩ := S; subst hp
  exact kk.st fun _ q => XS.lshr X.here C.1 rfl (hb C.2.2.1 hd) rfl q
theorem g_lushr (C : Cx p s m meth c Z own name cod maxL ret) (S : On p l e R s m args below meth c n0 T h k n) {x : Int64} {y : Int32} (hd : decode cod pc = .ok (.lushr, 1)) (hp : pc + 1 = pc') (kk : Gl p e below s R n0 Q T (mkF m pc' L (.long ((x.toUInt64 >>> (y &&& 0x3f).toInt64.toUInt64).toInt64) :: r))) : Gl p e below s R n0 Q T (mkF m pc L (.int y :: .long x :: r)) := by
  obtain ⟨locs, X, -⟩ := S; subst hp
  exact kk.st fun _ q => XS.lushr X.here C.1 rfl (hb C.2.2.1 hd) rfl q
theorem g_i2l (C : Cx p s m meth c Z own name cod maxL ret) (S : On p l e R s m args below meth c n0 T h k n) {x : Int32} (hd : decode cod pc = .ok (.i2l, 1)) (hp : pc + 1 = pc') (kk : Gl p e below s R n0 Q T (mkF m pc' L (.long (x.toInt64) :: r))) : Gl p e below s R n0 Q T (mkF m pc L (.int x :: r)) := by
  obtain ⟨locs, X, -⟩ := S; subst hp
  exact kk.st fun _ q => XS.i2l X.here C.1 rfl (hb C.2.2.1 hd) rfl q
theorem g_l2i (C : Cx p s m meth c Z own name cod maxL ret) (S : On p l e R s m args below meth c n0 T h k n) {x : Int64} (hd : decode cod pc = .ok (.l2i, 1)) (hp : pc + 1 = pc') (kk : Gl p e below s R n0 Q T (mkF m pc' L (.int (x.toInt32) :: r))) : Gl p e below s R n0 Q T (mkF m pc L (.long x :: r)) := by
  obtain ⟨locs, X, -⟩ := S; subst hp
  exact kk.st fun _ q => XS.l2i X.here C.1 rfl (hb C.2.2.1 hd) rfl q
theorem g_i2b (C : Cx p s m meth c Z own name cod maxL ret) (S : On p l e R s m args below meth c n0 T h k n) {x : Int32} (hd : decode cod pc = .ok (.i2b, 1)) (hp : pc + 1 = pc') (kk : Gl p e below s R n0 Q T (mkF m pc' L (.int (x.toInt8.toInt32) :: r))) : Gl p e below s R n0 Q T (mkF m pc L (.int x :: r)) := by
  obtain ⟨locs, X, -⟩ := S; subst hp
  exact kk.st fun _ q => XS.i2b X.here C.1 rfl (hb C.2.2.1 hd) rfl q
theorem g_i2c (C : Cx p s m meth c Z own name cod maxL ret) (S : On p l e R s m args below meth c n0 T h k n) {x : Int32} (hd : decode cod pc = .ok (.i2c, 1)) (hp : pc + 1 = pc') (kk : Gl p e below s R n0 Q T (mkF m pc' L (.int (x.toUInt32.toUInt16.toUInt32.toInt32) :: r))) : Gl p e below s R n0 Q T (mkF m pc L (.int x :: r)) := by
  obtain ⟨locs, X, -⟩ := S; subst hp
  exact kk.st fun _ q => XS.i2c X.here C.1 rfl (hb C.2.2.1 hd) rfl q
theorem g_i2s (C : Cx p s m meth c Z own name cod maxL ret) (S : On p l e R s m args below meth c n0 T h k n) {x : Int32} (hd : decode cod pc = .ok (.i2s, 1)) (hp : pc + 1 = pc') (kk : Gl p e below s R n0 Q T (mkF m pc' L (.int (x.toInt16.toInt32) :: r))) : Gl p e below s R n0 Q T (mkF m pc L (.int x :: r)) := by
  obtain ⟨locs, X, -⟩ := S; subst hp
  exact kk.st fun _ q => XS.i2s X.here C.1 rfl (hb C.2.2.1 hd) rfl q
theorem g_lneg (C : Cx p s m meth c Z own name cod maxL ret) (S : On p l e R s m args below meth c n0 T h k n) {x : Int64} (hd : decode cod pc = .ok (.lneg, 1)) (hp : pc + 1 = pc') (kk : Gl p e below s R n0 Q T (mkF m pc' L (.long (-x) :: r))) : Gl p e below s R n0 Q T (mkF m pc L (.long x :: r)) := by
  obtain ⟨locs, X, -⟩ := S; subst hp
  exact kk.st fun _ q => XS.lneg X.here C.1 rfl (hb C.2.2.1 hd) rfl q
theorem g_ineg (C : Cx p s m meth c Z own name cod maxL ret) (S : On p l e R s m args below meth c n0 T h k n) {x : Int32} (hd : decode cod pc = .ok (.ineg, 1)) (hp : pc + 1 = pc') (kk : Gl p e below s R n0 Q T (mkF m pc' L (.int (-x) :: r))) : Gl p e below s R n0 Q T (mkF m pc L (.int x :: r)) := by
  obtain ⟨locs, X, -⟩ := S; subst hp
  exact kk.st fun _ q => XS.ineg X.here C.1 rfl (hb C.2.2.1 hd) rfl q
theorem g_irem (C : Cx p s m meth c Z own name cod maxL ret) (S : On p l e R s m args below meth c n0 T h k n) {x y : Int32} (hd : decode cod pc = .ok (.irem, 1)) (hp : pc + 1 = pc') (hy : y ≠ 0) (kk : Gl p e below s R n0 Q T (mkF m pc' L (.int (x % y) :: r))) : Gl p e below s R n0 Q T (mkF m pc L (.int y :: .int x :: r)) := by
  obtain ⟨locs, X, -⟩ := S; subst hp
  exact kk.st fun _ q => iremM X C.1 rfl (hb C.2.2.1 hd) rfl hy q
theorem g_idiv (C : Cx p s m meth c Z own name cod maxL ret) (S : On p l e R s m args below meth c n0 T h k n) {x y : Int32} (hd : decode cod pc = .ok (.idiv, 1)) (hp : pc + 1 = pc') (hy : y ≠ 0) (kk : Gl p e below s R n0 Q T (mkF m pc' L (.int (x / y) :: r))) : Gl p e below s R n0 Q T (mkF m pc L (.int y :: .int x :: r)) := by
  obtain ⟨locs, X, -⟩ := S; subst hp
  exact kk.st fun _ q => XS.idiv X.here C.1 rfl (hb C.2.2.1 hd) rfl hy q
theorem g_lcmp (C : Cx p s m meth c Z own name cod maxL ret) (S : On p l e R s m args below meth c n0 T h k n) {x y : Int64} (hd : decode cod pc = .ok (.lcmp, 1)) (hp : pc + 1 = pc') (kk : Gl p e below s R n0 Q T (mkF m pc' L (.int (lcmpW x y) :: r))) : Gl p e below s R n0 Q T (mkF m pc L (.long y :: .long x :: r)) := by
  obtain ⟨locs, X, -⟩ := S; subst hp
  exact kk.st fun _ q => XS.lcmp X.here C.1 rfl (hb C.2.2.1 hd) rfl q
theorem g_dup (C : Cx p s m meth c Z own name cod maxL ret) (S : On p l e R s m args below meth c n0 T h k n) {x : Value} (hd : decode cod pc = .ok (.dup, 1)) (hp : pc + 1 = pc') (hc : x.category = 1) (kk : Gl p e below s R n0 Q T (mkF m pc' L (x :: x :: r))) : Gl p e below s R n0 Q T (mkF m pc L (x :: r)) := by
  obtain ⟨locs, X, -⟩ := S; subst hp
  exact kk.st fun _ q => XS.dup X.here C.1 rfl (hb C.2.2.1 hd) rfl hc q
theorem g_pop (C : Cx p s m meth c Z own name cod maxL ret) (S : On p l e R s m args below meth c n0 T h k n) {x : Value} (hd : decode cod pc = .ok (.pop, 1)) (hp : pc + 1 = pc') (hc : x.category = 1) (kk : Gl p e below s R n0 Q T (mkF m pc' L r)) : Gl p e below s R n0 Q T (mkF m pc L (x :: r)) := by
  obtain ⟨locs, X, -⟩ := S; subst hp
  exact kk.st fun _ q => XS.pop X.here C.1 rfl (hb C.2.2.1 hd) rfl hc q
theorem g_dup_x1 (C : Cx p s m meth c Z own name cod maxL ret) (S : On p l e R s m args below meth c n0 T h k n) {x y : Value} (hd : decode cod pc = .ok (.dup_x1, 1)) (hp : pc + 1 = pc') (hc : x.category = 1) (hc2 : y.category = 1) (kk : Gl p e below s R n0 Q T (mkF m pc' L (x :: y :: x :: r))) : Gl p e below s R n0 Q T (mkF m pc L (x :: y :: r)) := by
  obtain ⟨locs, X, -⟩ := S; subst hp
  exact kk.st fun _ q => XS.dupX1 X.here C.1 rfl (hb C.2.2.1 hd) rfl hc hc2 q
theorem g_dup2 (C : Cx p s m meth c Z own name cod maxL ret) (S : On p l e R s m args below meth c n0 T h k n) {x y : Value} (hd : decode cod pc = .ok (.dup2, 1)) (hp : pc + 1 = pc') (hc : x.category = 1) (hc2 : y.category = 1) (kk : Gl p e below s R n0 Q T (mkF m pc' L (x :: y :: x :: y :: r))) : Gl p e below s R n0 Q T (mkF m pc L (x :: y :: r)) := by
  obtain ⟨locs, X, -⟩ := S; subst hp
  exact kk.st fun _ q => XT.dup2 X.here C.1 rfl (hb C.2.2.1 hd) rfl hc hc2 q
theorem g_dup_x2 (C : Cx p s m meth c Z own name cod maxL ret) (S : On p l e R s m args below meth c n0 T h k n) {x y z : Value} (hd : decode cod pc = .ok (.dup_x2, 1)) (hp : pc + 1 = pc') (hc : x.category = 1) (hc2 : y.category = 1) (hc3 : z.category = 1) (kk : Gl p e below s R n0 Q T (mkF m pc' L (x :: y :: z :: x :: r))) : Gl p e below s R n0 Q T (mkF m pc L (x :: y :: z :: r)) := by
  obtain ⟨locs, X, -⟩ := S; subst hp
  refine kk.st fun _ q => ?_
  have hx := C.1; have hd' := hb C.2.2.1 hd
  jvm_step X.here [X.here.top, hx, hd', hc, hc2, hc3]
  exact q
theorem g_iinc (C : Cx p s m meth c Z own name cod maxL ret) (S : On p l e R s m args below meth c n0 T h k n) {i : Nat} {cst : Int} {x : Int32} (v : Int32) (hd : decode cod pc = .ok (.iinc i cst, 3)) (hp : pc + 3 = pc') (hv : Int32.ofInt cst = v) (hl : L[i]? = some (.val (.int x))) (hl' : storeLocals L i (.int (x + v)) = some L') (kk : Gl p e below s R n0 Q T (mkF m pc' L' r)) : Gl p e below s R n0 Q T (mkF m pc L r) := by
  obtain ⟨locs, X, -⟩ := S; subst hp hv
  exact kk.st fun _ q => XS.iinc X.here C.1 rfl (hb C.2.2.1 hd) hl hl' q
theorem g_goto (C : Cx p s m meth c Z own name cod maxL ret) (S : On p l e R s m args below meth c n0 T h k n) {o : Int} (hd : decode cod pc = .ok (.goto o, 3)) (ho : 0 ≤ (pc : Int) + o) (hp : ((pc : Int) + o).toNat = pc') (kk : Gl p e below s R n0 Q T (mkF m pc' L r)) : Gl p e below s R n0 Q T (mkF m pc L r) := by
  obtain ⟨locs, X, -⟩ := S
  exact kk.st fun _ q => XS.goto X.here C.1 rfl rfl (hb C.2.2.1 hd) ho hp q
theorem g_dload (C : Cx p s m meth c Z own name cod maxL ret) (S : On p l e R s m args below meth c n0 T h k n) {i : Nat} {v : UInt64} (hd : decode cod pc = .ok (.dload i, 2)) (hp : pc + 2 = pc') (hl : L[i]? = some (.val (.double v))) (kk : Gl p e below s R n0 Q T (mkF m pc' L (.double v :: r))) : Gl p e below s R n0 Q T (mkF m pc L r) := by
  obtain ⟨locs, X, -⟩ := S; subst hp
  exact kk.st fun _ q => XS.dload X.here C.1 rfl (hb C.2.2.1 hd) hl q
theorem g_dloadN (C : Cx p s m meth c Z own name cod maxL ret) (S : On p l e R s m args below meth c n0 T h k n) {i : Fin 4} {v : UInt64} (hd : decode cod pc = .ok (.dload_n i, 1)) (hp : pc + 1 = pc') (hl : L[i.val]? = some (.val (.double v))) (kk : Gl p e below s R n0 Q T (mkF m pc' L (.double v :: r))) : Gl p e below s R n0 Q T (mkF m pc L r) := by
  obtain ⟨locs, X, -⟩ := S; subst hp
  exact kk.st fun _ q => XS.dloadN X.here C.1 rfl (hb C.2.2.1 hd) hl q
theorem g_dstore (C : Cx p s m meth c Z own name cod maxL ret) (S : On p l e R s m args below meth c n0 T h k n) {i : Nat} {v : UInt64} (hd : decode cod pc = .ok (.dstore i, 2)) (hp : pc + 2 = pc') (hl : storeLocals L i (.double v) = some L') (kk : Gl p e below s R n0 Q T (mkF m pc' L' r)) : Gl p e below s R n0 Q T (mkF m pc L (.double v :: r)) := by
  obtain ⟨locs, X, -⟩ := S; subst hp
  exact kk.st fun _ q => XS.dstore X.here C.1 rfl (hb C.2.2.1 hd) rfl hl q
theorem g_dstoreN (C : Cx p s m meth c Z own name cod maxL ret) (S : On p l e R s m args below meth c n0 T h k n) {i : Fin 4} {v : UInt64} (hd : decode cod pc = .ok (.dstore_n i, 1)) (hp : pc + 1 = pc') (hl : storeLocals L i.val (.double v) = some L') (kk : Gl p e below s R n0 Q T (mkF m pc' L' r)) : Gl p e below s R n0 Q T (mkF m pc L (.double v :: r)) := by
  obtain ⟨locs, X, -⟩ := S; subst hp
  exact kk.st fun _ q => XS.dstoreN X.here C.1 rfl (hb C.2.2.1 hd) rfl hl q
theorem g_dconst0 (C : Cx p s m meth c Z own name cod maxL ret) (S : On p l e R s m args below meth c n0 T h k n) (hd : decode cod pc = .ok (.dconst 0, 1)) (hp : pc + 1 = pc') (kk : Gl p e below s R n0 Q T (mkF m pc' L (.double FP.dconst0 :: r))) : Gl p e below s R n0 Q T (mkF m pc L r) := by
  obtain ⟨locs, X, -⟩ := S; subst hp
  exact kk.st fun _ q => XS.dconst0 X.here C.1 rfl (hb C.2.2.1 hd) rfl q
theorem g_dconst1 (C : Cx p s m meth c Z own name cod maxL ret) (S : On p l e R s m args below meth c n0 T h k n) (hd : decode cod pc = .ok (.dconst 1, 1)) (hp : pc + 1 = pc') (kk : Gl p e below s R n0 Q T (mkF m pc' L (.double FP.dconst1 :: r))) : Gl p e below s R n0 Q T (mkF m pc L r) := by
  obtain ⟨locs, X, -⟩ := S; subst hp
  exact kk.st fun _ q => XS.dconst1 X.here C.1 rfl (hb C.2.2.1 hd) rfl q
theorem g_i2d (C : Cx p s m meth c Z own name cod maxL ret) (S : On p l e R s m args below meth c n0 T h k n) {x : Int32} (hd : decode cod pc = .ok (.i2d, 1)) (hp : pc + 1 = pc') (kk : Gl p e below s R n0 Q T (mkF m pc' L (.double (FP.i2d x) :: r))) : Gl p e below s R n0 Q T (mkF m pc L (.int x :: r)) := by
  obtain ⟨locs, X, -⟩ := S; subst hp
  exact kk.st fun _ q => XS.i2dS X.here C.1 rfl (hb C.2.2.1 hd) rfl rfl q
theorem g_l2d (C : Cx p s m meth c Z own name cod maxL ret) (S : On p l e R s m args below meth c n0 T h k n) {x : Int64} (hd : decode cod pc = .ok (.l2d, 1)) (hp : pc + 1 = pc') (kk : Gl p e below s R n0 Q T (mkF m pc' L (.double (FP.l2d x) :: r))) : Gl p e below s R n0 Q T (mkF m pc L (.long x :: r)) := by
  obtain ⟨locs, X, -⟩ := S; subst hp
  exact kk.st fun _ q => XS.l2dS X.here C.1 rfl (hb C.2.2.1 hd) rfl rfl q
theorem g_dadd (C : Cx p s m meth c Z own name cod maxL ret) (S : On p l e R s m args below meth c n0 T h k n) {x y : UInt64} (hd : decode cod pc = .ok (.dadd, 1)) (hp : pc + 1 = pc') (hn : Jvm.Free.Fl.NoNaN64 (FP.dadd x y)) (kk : Gl p e below s R n0 Q T (mkF m pc' L (.double (FP.dadd x y) :: r))) : Gl p e below s R n0 Q T (mkF m pc L (.double y :: .double x :: r)) := by
  obtain ⟨locs, X, -⟩ := S; subst hp
  exact kk.st fun _ q => XS.daddS X.here C.1 rfl (hb C.2.2.1 hd) rfl hn rfl q
theorem g_dmul (C : Cx p s m meth c Z own name cod maxL ret) (S : On p l e R s m args below meth c n0 T h k n) {x y : UInt64} (hd : decode cod pc = .ok (.dmul, 1)) (hp : pc + 1 = pc') (hn : Jvm.Free.Fl.NoNaN64 (FP.dmul x y)) (kk : Gl p e below s R n0 Q T (mkF m pc' L (.double (FP.dmul x y) :: r))) : Gl p e below s R n0 Q T (mkF m pc L (.double y :: .double x :: r)) := by
  obtain ⟨locs, X, -⟩ := S; subst hp
  exact kk.st fun _ q => XS.dmulS X.here C.1 rfl (hb C.2.2.1 hd) rfl hn rfl q
theorem g_ddiv (C : Cx p s m meth c Z own name cod maxL ret) (S : On p l e R s m args below meth c n0 T h k n) {x y : UInt64} (hd : decode cod pc = .ok (.ddiv, 1)) (hp : pc + 1 = pc') (hn : Jvm.Free.Fl.NoNaN64 (FP.ddiv x y)) (kk : Gl p e below s R n0 Q T (mkF m pc' L (.double (FP.ddiv x y) :: r))) : Gl p e below s R n0 Q T (mkF m pc L (.double y :: .double x :: r)) := by
  obtain ⟨locs, X, -⟩ := S; subst hp
  exact kk.st fun _ q => XS.ddivS X.here C.1 rfl (hb C.2.2.1 hd) rfl hn rfl q
theorem g_dsub (C : Cx p s m meth c Z own name cod maxL ret) (S : On p l e R s m args below meth c n0 T h k n) {x y : UInt64} (hd : decode cod pc = .ok (.dsub, 1)) (hp : pc + 1 = pc') (hn : Jvm.Free.Fl.NoNaN64 (FP.dsub x y)) (kk : Gl p e below s R n0 Q T (mkF m pc' L (.double (FP.dsub x y) :: r))) : Gl p e below s R n0 Q T (mkF m pc L (.double y :: .double x :: r)) := by
  obtain ⟨locs, X, -⟩ := S; subst hp
  exact kk.st fun _ q => XS.dsubS X.here C.1 rfl (hb C.2.2.1 hd) rfl hn rfl q
theorem g_dcmp (C : Cx p s m meth c Z own name cod maxL ret) (S : On p l e R s m args below meth c n0 T h k n) {o : CmpOp} {x y : UInt64} {v : Int32} (hd : decode cod pc = .ok (.dcmp o, 1)) (hp : pc + 1 = pc') (hv : cmpValue (FP.dcmp x y) o = v) (kk : Gl p e below s R n0 Q T (mkF m pc' L (.int v :: r))) : Gl p e below s R n0 Q T (mkF m pc L (.double y :: .double x :: r)) := by
  obtain ⟨locs, X, -⟩ := S; subst hp
  exact kk.st fun _ q => XS.dcmpS X.here C.1 rfl (hb C.2.2.1 hd) rfl hv q
theorem g_iincL (C : Cx p s m meth c Z own name cod maxL ret) (S : On p l e R s m args below meth c n0 T h k n) {i : Nat} {cst : Int} {x : Int32} (v y : Int32) (hd : decode cod pc = .ok (.iinc i cst, 3)) (hp : pc + 3 = pc') (hv : Int32.ofInt cst = v) (hy : x + v = y) (hl : L[i]? = some (.val (.int x))) (hl' : storeLocals L i (.int y) = some L') (kk : Gl p e below s R n0 Q T (mkF m pc' L' r)) : Gl p e below s R n0 Q T (mkF m pc L r) := by subst hy; exact g_iinc C S v hd hp hv hl hl' kk
theorem g_icmp_lt (C : Cx p s m meth c Z own name cod maxL ret) (S : On p l e R s m args below meth c n0 T h k n) {x y : Int32} {o : Int} (hd : decode cod pc = .ok (.if_icmp .lt o, 3)) (ho : 0 ≤ (pc : Int) + o) (hp : ((pc : Int) + o).toNat = pc') (hq : pc + 3 = pf) (ht : x < y → Gl p e below s R n0 Q T (mkF m pc' L r)) (hf : ¬ x < y → Gl p e below s R n0 Q T (mkF m pf L r)) : Gl p e below s R n0 Q T (mkF m pc L (.int y :: .int x :: r)) := by
  obtain ⟨locs, X, -⟩ := S; subst hq
  by_cases q : x < y
  · exact (ht q).st fun _ z => XS.icmpYes X.here C.1 rfl rfl (hb C.2.2.1 hd) rfl ((tlt q).1) ho hp z
  · exact (hf q).st fun _ z => XS.icmpNo X.here C.1 rfl (hb C.2.2.1 hd) rfl ((flt q).1) z
theorem g_if_lt (C : Cx p s m meth c Z own name cod maxL ret) (S : On p l e R s m args below meth c n0 T h k n) {x : Int32} {o : Int} (hd : decode cod pc = .ok (.ifCond .lt o, 3)) (ho : 0 ≤ (pc : Int) + o) (hp : ((pc : Int) + o).toNat = pc') (hq : pc + 3 = pf) (ht : x < (0 : Int32) → Gl p e below s R n0 Q T (mkF m pc' L r)) (hf : ¬ x < (0 : Int32) → Gl p e below s R n0 Q T (mkF m pf L r)) : Gl p e below s R n0 Q T (mkF m pc L (.int x :: r)) := by
  obtain ⟨locs, X, -⟩ := S; subst hq
  by_cases q : x < (0 : Int32)
  · exact (ht q).st fun _ z => XS.ifYes X.here C.1 rfl rfl (hb C.2.2.1 hd) rfl ((if0 _ _).trans (tlt q).1) ho hp z
  · exact (hf q).st fun _ z => XS.ifNo X.here C.1 rfl (hb C.2.2.1 hd) rfl ((if0 _ _).trans (flt q).1) z
theorem g_lif_lt (C : Cx p s m meth c Z own name cod maxL ret) (S : On p l e R s m args below meth c n0 T h k n) {x y : Int64} {o : Int} (hd : decode cod pc = .ok (.ifCond .lt o, 3)) (ho : 0 ≤ (pc : Int) + o) (hp : ((pc : Int) + o).toNat = pc') (hq : pc + 3 = pf) (ht : x < y → Gl p e below s R n0 Q T (mkF m pc' L r)) (hf : ¬ x < y → Gl p e below s R n0 Q T (mkF m pf L r)) : Gl p e below s R n0 Q T (mkF m pc L (.int (lcmpW x y) :: r)) := by
  obtain ⟨locs, X, -⟩ := S; subst hq
  by_cases q : x < y
  · exact (ht q).st fun _ z => XS.ifYes X.here C.1 rfl rfl (hb C.2.2.1 hd) rfl ((if0 _ _).trans (tlt ((lw_lt x y).mpr q)).1) ho hp z
  · exact (hf q).st fun _ z => XS.ifNo X.here C.1 rfl (hb C.2.2.1 hd) rfl ((if0 _ _).trans (flt (fun z => q ((lw_lt x y).mp z))).1) z
theorem g_icmp_ge (C : Cx p s m meth c Z own name cod maxL ret) (S : On p l e R s m args below meth c n0 T h k n) {x y : Int32} {o : Int} (hd : decode cod pc = .ok (.if_icmp .ge o, 3)) (ho : 0 ≤ (pc : Int) + o) (hp : ((pc : Int) + o).toNat = pc') (hq : pc + 3 = pf) (ht : ¬ x < y → Gl p e below s R n0 Q T (mkF m pc' L r)) (hf : x < y → Gl p e below s R n0 Q T (mkF m pf L r)) : Gl p e below s R n0 Q T (mkF m pc L (.int y :: .int x :: r)) := by
  obtain ⟨locs, X, -⟩ := S; subst hq
  by_cases q : x < y
  · exact (hf q).st fun _ z => XS.icmpNo X.here C.1 rfl (hb C.2.2.1 hd) rfl ((tlt q).2.1) z
  · exact (ht q).st fun _ z => XS.icmpYes X.here C.1 rfl rfl (hb C.2.2.1 hd) rfl ((flt q).2.1) ho hp z
theorem g_if_ge (C : Cx p s m meth c Z own name cod maxL ret) (S : On p l e R s m args below meth c n0 T h k n) {x : Int32} {o : Int} (hd : decode cod pc = .ok (.ifCond .ge o, 3)) (ho : 0 ≤ (pc : Int) + o) (hp : ((pc : Int) + o).toNat = pc') (hq : pc + 3 = pf) (ht : ¬ x < (0 : Int32) → Gl p e below s R n0 Q T (mkF m pc' L r)) (hf : x < (0 : Int32) → Gl p e below s R n0 Q T (mkF m pf L r)) : Gl p e below s R n0 Q T (mkF m pc L (.int x :: r)) := by
  obtain ⟨locs, X, -⟩ := S; subst hq
  by_cases q : x < (0 : Int32)
  · exact (hf q).st fun _ z => XS.ifNo X.here C.1 rfl (hb C.2.2.1 hd) rfl ((if0 _ _).trans (tlt q).2.1) z
  · exact (ht q).st fun _ z => XS.ifYes X.here C.1 rfl rfl (hb C.2.2.1 hd) rfl ((if0 _ _).trans (flt q).2.1) ho hp z
theorem g_lif_ge (C : Cx p s m meth c Z own name cod maxL ret) (S : On p l e R s m args below meth c n0 T h k n) {x y : Int64} {o : Int} (hd : decode cod pc = .ok (.ifCond .ge o, 3)) (ho : 0 ≤ (pc : Int) + o) (hp : ((pc : Int) + o).toNat = pc') (hq : pc + 3 = pf) (ht : ¬ x < y → Gl p e below s R n0 Q T (mkF m pc' L r)) (hf : x < y → Gl p e below s R n0 Q T (mkF m pf L r)) : Gl p e below s R n0 Q T (mkF m pc L (.int (lcmpW x y) :: r)) := by
  obtain ⟨locs, X, -⟩ := S; subst hq
  by_cases q : x < y
  · exact (hf q).st fun _ z => XS.ifNo X.here C.1 rfl (hb C.2.2.1 hd) rfl ((if0 _ _).trans (tlt ((lw_lt x y).mpr q)).2.1) z
  · exact (ht q).st fun _ z => XS.ifYes X.here C.1 rfl rfl (hb C.2.2.1 hd) rfl ((if0 _ _).trans (flt (fun z => q ((lw_lt x y).mp z))).2.1) ho hp z
theorem g_icmp_gt (C : Cx p s m meth c Z own name cod maxL ret) (S : On p l e R s m args below meth c n0 T h k n) {x y : Int32} {o : Int} (hd : decode cod pc = .ok (.if_icmp .gt o, 3)) (ho : 0 ≤ (pc : Int) + o) (hp : ((pc : Int) + o).toNat = pc') (hq : pc + 3 = pf) (ht : y < x → Gl p e below s R n0 Q T (mkF m pc' L r)) (hf : ¬ y < x → Gl p e below s R n0 Q T (mkF m pf L r)) : Gl p e below s R n0 Q T (mkF m pc L (.int y :: .int x :: r)) := by
  obtain ⟨locs, X, -⟩ := S; subst hq
  by_cases q : y < x
  · exact (ht q).st fun _ z => XS.icmpYes X.here C.1 rfl rfl (hb C.2.2.1 hd) rfl ((tlt q).2.2.1) ho hp z
  · exact (hf q).st fun _ z => XS.icmpNo X.here C.1 rfl (hb C.2.2.1 hd) rfl ((flt q).2.2.1) z
theorem g_if_gt (C : Cx p s m meth c Z own name cod maxL ret) (S : On p l e R s m args below meth c n0 T h k n) {x : Int32} {o : Int} (hd : decode cod pc = .ok (.ifCond .gt o, 3)) (ho : 0 ≤ (pc : Int) + o) (hp : ((pc : Int) + o).toNat = pc') (hq : pc + 3 = pf) (ht : (0 : Int32) < x → Gl p e below s R n0 Q T (mkF m pc' L r)) (hf : ¬ (0 : Int32) < x → Gl p e below s R n0 Q T (mkF m pf L r)) : Gl p e below s R n0 Q T (mkF m pc L (.int x :: r)) := by
  obtain ⟨locs, X, -⟩ := S; subst hq
  by_cases q : (0 : Int32) < x
  · exact (ht q).st fun _ z => XS.ifYes X.here C.1 rfl rfl (hb C.2.2.1 hd) rfl ((if0 _ _).trans (tlt q).2.2.1) ho hp z
  · exact (hf q).st fun _ z => XS.ifNo X.here C.1 rfl (hb C.2.2.1 hd) rfl ((if0 _ _).trans (flt q).2.2.1) z
theorem g_lif_gt (C : Cx p s m meth c Z own name cod maxL ret) (S : On p l e R s m args below meth c n0 T h k n) {x y : Int64} {o : Int} (hd : decode cod pc = .ok (.ifCond .gt o, 3)) (ho : 0 ≤ (pc : Int) + o) (hp : ((pc : Int) + o).toNat = pc') (hq : pc + 3 = pf) (ht : y < x → Gl p e below s R n0 Q T (mkF m pc' L r)) (hf : ¬ y < x → Gl p e below s R n0 Q T (mkF m pf L r)) : Gl p e below s R n0 Q T (mkF m pc L (.int (lcmpW x y) :: r)) := by
  obtain ⟨locs, X, -⟩ := S; subst hq
  by_cases q : y < x
  · exact (ht q).st fun _ z => XS.ifYes X.here C.1 rfl rfl (hb C.2.2.1 hd) rfl ((if0 _ _).trans (tlt ((lw_gt x y).mpr q)).2.2.1) ho hp z
  · exact (hf q).st fun _ z => XS.ifNo X.here C.1 rfl (hb C.2.2.1 hd) rfl ((if0 _ _).trans (flt (fun z => q ((lw_gt x y).mp z))).2.2.1) z
theorem g_icmp_le (C : Cx p s m meth c Z own name cod maxL ret) (S : On p l e R s m args below meth c n0 T h k n) {x y : Int32} {o : Int} (hd : decode cod pc = .ok (.if_icmp .le o, 3)) (ho : 0 ≤ (pc : Int) + o) (hp : ((pc : Int) + o).toNat = pc') (hq : pc + 3 = pf) (ht : ¬ y < x → Gl p e below s R n0 Q T (mkF m pc' L r)) (hf : y < x → Gl p e below s R n0 Q T (mkF m pf L r)) : Gl p e below s R n0 Q T (mkF m pc L (.int y :: .int x :: r)) := by
  obtain ⟨locs, X, -⟩ := S; subst hq
  by_cases q : y < x
  · exact (hf q).st fun _ z => XS.icmpNo X.here C.1 rfl (hb C.2.2.1 hd) rfl ((tlt q).2.2.2) z
  · exact (ht q).st fun _ z => XS.icmpYes X.here C.1 rfl rfl (hb C.2.2.1 hd) rfl ((flt q).2.2.2) ho hp z
theorem g_if_le (C : Cx p s m meth c Z own name cod maxL ret) (S : On p l e R s m args below meth c n0 T h k n) {x : Int32} {o : Int} (hd : decode cod pc = .ok (.ifCond .le o, 3)) (ho : 0 ≤ (pc : Int) + o) (hp : ((pc : Int) + o).toNat = pc') (hq : pc + 3 = pf) (ht : ¬ (0 : Int32) < x → Gl p e below s R n0 Q T (mkF m pc' L r)) (hf : (0 : Int32) < x → Gl p e below s R n0 Q T (mkF m pf L r)) : Gl p e below s R n0 Q T (mkF m pc L (.int x :: r)) := by
  obtain ⟨locs, X, -⟩ := S; subst hq
  by_cases q : (0 : Int32) < x
  · exact (hf q).st fun _ z => XS.ifNo X.here C.1 rfl (hb C.2.2.1 hd) rfl ((if0 _ _).trans (tlt q).2.2.2) z
  · exact (ht q).st fun _ z => XS.ifYes X.here C.1 rfl rfl (hb C.2.2.1 hd) rfl ((if0 _ _).trans (flt q).2.2.2) ho hp z
theorem g_lif_le (C : Cx p s m meth c Z own name cod maxL ret) (S : On p l e R s m args below meth c n0 T h k n) {x y : Int64} {o : Int} (hd : decode cod pc = .ok (.ifCond .le o, 3)) (ho : 0 ≤ (pc : Int) + o) (hp : ((pc : Int) + o).toNat = pc') (hq : pc + 3 = pf) (ht : ¬ y < x → Gl p e below s R n0 Q T (mkF m pc' L r)) (hf : y < x → Gl p e below s R n0 Q T (mkF m pf L r)) : Gl p e below s R n0 Q T (mkF m pc L (.int (lcmpW x y) :: r)) := by
  obtain ⟨locs, X, -⟩ := S; subst hq
  by_cases q : y < x
  · exact (hf q).st fun _ z => XS.ifNo X.here C.1 rfl (hb C.2.2.1 hd) rfl ((if0 _ _).trans (tlt ((lw_gt x y).mpr q)).2.2.2) z
  · exact (ht q).st fun _ z => XS.ifYes X.here C.1 rfl rfl (hb C.2.2.1 hd) rfl ((if0 _ _).trans (flt (fun z => q ((lw_gt x y).mp z))).2.2.2) ho hp z
theorem g_icmp_eq (C : Cx p s m meth c Z own name cod maxL ret) (S : On p l e R s m args below meth c n0 T h k n) {x y : Int32} {o : Int} (hd : decode cod pc = .ok (.if_icmp .eq o, 3)) (ho : 0 ≤ (pc : Int) + o) (hp : ((pc : Int) + o).toNat = pc') (hq : pc + 3 = pf) (ht : x = y → Gl p e below s R n0 Q T (mkF m pc' L r)) (hf : ¬ x = y → Gl p e below s R n0 Q T (mkF m pf L r)) : Gl p e below s R n0 Q T (mkF m pc L (.int y :: .int x :: r)) := by
  obtain ⟨locs, X, -⟩ := S; subst hq
  by_cases q : x = y
  · exact (ht q).st fun _ z => XS.icmpYes X.here C.1 rfl rfl (hb C.2.2.1 hd) rfl ((teq q).1) ho hp z
  · exact (hf q).st fun _ z => XS.icmpNo X.here C.1 rfl (hb C.2.2.1 hd) rfl ((feq q).1) z
theorem g_if_eq (C : Cx p s m meth c Z own name cod maxL ret) (S : On p l e R s m args below meth c n0 T h k n) {x : Int32} {o : Int} (hd : decode cod pc = .ok (.ifCond .eq o, 3)) (ho : 0 ≤ (pc : Int) + o) (hp : ((pc : Int) + o).toNat = pc') (hq : pc + 3 = pf) (ht : x = (0 : Int32) → Gl p e below s R n0 Q T (mkF m pc' L r)) (hf : ¬ x = (0 : Int32) → Gl p e below s R n0 Q T (mkF m pf L r)) : Gl p e below s R n0 Q T (mkF m pc L (.int x :: r)) := by
  obtain ⟨locs, X, -⟩ := S; subst hq
  by_cases q : x = (0 : Int32)
  · exact (ht q).st fun _ z => XS.ifYes X.here C.1 rfl rfl (hb C.2.2.1 hd) rfl ((if0 _ _).trans (teq q).1) ho hp z
  · exact (hf q).st fun _ z => XS.ifNo X.here C.1 rfl (hb C.2.2.1 hd) rfl ((if0 _ _).trans (feq q).1) z
theorem g_lif_eq (C : Cx p s m meth c Z own name cod maxL ret) (S : On p l e R s m args below meth c n0 T h k n) {x y : Int64} {o : Int} (hd : decode cod pc = .ok (.ifCond .eq o, 3)) (ho : 0 ≤ (pc : Int) + o) (hp : ((pc : Int) + o).toNat = pc') (hq : pc + 3 = pf) (ht : x = y → Gl p e below s R n0 Q T (mkF m pc' L r)) (hf : ¬ x = y → Gl p e below s R n0 Q T (mkF m pf L r)) : Gl p e below s R n0 Q T (mkF m pc L (.int (lcmpW x y) :: r)) := by
  obtain ⟨locs, X, -⟩ := S; subst hq
  by_cases q : x = y
  · exact (ht q).st fun _ z => XS.ifYes X.here C.1 rfl rfl (hb C.2.2.1 hd) rfl ((if0 _ _).trans (teq ((lw_eq x y).mpr q)).1) ho hp z
  · exact (hf q).st fun _ z => XS.ifNo X.here C.1 rfl (hb C.2.2.1 hd) rfl ((if0 _ _).trans (feq (fun z => q ((lw_eq x y).mp z))).1) z
theorem g_icmp_ne (C : Cx p s m meth c Z own name cod maxL ret) (S : On p l e R s m args below meth c n0 T h k n) {x y : Int32} {o : Int} (hd : decode cod pc = .ok (.if_icmp .ne o, 3)) (ho : 0 ≤ (pc : Int) + o) (hp : ((pc : Int) + o).toNat = pc') (hq : pc + 3 = pf) (ht : ¬ x = y → Gl p e below s R n0 Q T (mkF m pc' L r)) (hf : x = y → Gl p e below s R n0 Q T (mkF m pf L r)) : Gl p e below s R n0 Q T (mkF m pc L (.int y :: .int x :: r)) := by
  obtain ⟨locs, X, -⟩ := S; subst hq
  by_cases q : x = y
  · exact (hf q).st fun _ z => XS.icmpNo X.here C.1 rfl (hb C.2.2.1 hd) rfl ((teq q).2) z
  · exact (ht q).st fun _ z => XS.icmpYes X.here C.1 rfl rfl (hb C.2.2.1 hd) rfl ((feq q).2) ho hp z
theorem g_if_ne (C : Cx p s m meth c Z own name cod maxL ret) (S : On p l e R s m args below meth c n0 T h k n) {x : Int32} {o : Int} (hd : decode cod pc = .ok (.ifCond .ne o, 3)) (ho : 0 ≤ (pc : Int) + o) (hp : ((pc : Int) + o).toNat = pc') (hq : pc + 3 = pf) (ht : ¬ x = (0 : Int32) → Gl p e below s R n0 Q T (mkF m pc' L r)) (hf : x = (0 : Int32) → Gl p e below s R n0 Q T (mkF m pf L r)) : Gl p e below s R n0 Q T (mkF m pc L (.int x :: r)) := by
  obtain ⟨locs, X, -⟩ := S; subst hq
  by_cases q : x = (0 : Int32)
  · exact (hf q).st fun _ z => XS.ifNo X.here C.1 rfl (hb C.2.2.1 hd) rfl ((if0 _ _).trans (teq q).2) z
  · exact (ht q).st fun _ z => XS.ifYes X.here C.1 rfl rfl (hb C.2.2.1 hd) rfl ((if0 _ _).trans (feq q).2) ho hp z
theorem g_lif_ne (C : Cx p s m meth c Z own name cod maxL ret) (S : On p l e R s m args below meth c n0 T h k n) {x y : Int64} {o : Int} (hd : decode cod pc = .ok (.ifCond .ne o, 3)) (ho : 0 ≤ (pc : Int) + o) (hp : ((pc : Int) + o).toNat = pc') (hq : pc + 3 = pf) (ht : ¬ x = y → Gl p e below s R n0 Q T (mkF m pc' L r)) (hf : x = y → Gl p e below s R n0 Q T (mkF m pf L r)) : Gl p e below s R n0 Q T (mkF m pc L (.int (lcmpW x y) :: r)) := by
  obtain ⟨locs, X, -⟩ := S; subst hq
  by_cases q : x = y
  · exact (hf q).st fun _ z => XS.ifNo X.here C.1 rfl (hb C.2.2.1 hd) rfl ((if0 _ _).trans (teq ((lw_eq x y).mpr q)).2) z
  · exact (ht q).st fun _ z => XS.ifYes X.here C.1 rfl rfl (hb C.2.2.1 hd) rfl ((if0 _ _).trans (feq (fun z => q ((lw_eq x y).mp z))).2) ho hp z
theorem g_ifnonnull_ref (C : Cx p s m meth c Z own name cod maxL ret) (S : On p l e R s m args below meth c n0 T h k n) {o : Int} (hd : decode cod pc = .ok (.ifnonnull o, 3)) (ho : 0 ≤ (pc : Int) + o) (hp : ((pc : Int) + o).toNat = pc') (kk : Gl p e below s R n0 Q T (mkF m pc' L r)) : Gl p e below s R n0 Q T (mkF m pc L (.ref a :: r)) := by
  obtain ⟨locs, X, -⟩ := S
  exact kk.st fun _ q => XS.ifnonnullYes X.here C.1 rfl rfl (hb C.2.2.1 hd) rfl ho hp q
theorem g_ifnonnull_null (C : Cx p s m meth c Z own name cod maxL ret) (S : On p l e R s m args below meth c n0 T h k n) {o : Int} (hd : decode cod pc = .ok (.ifnonnull o, 3)) (hq : pc + 3 = pf) (kk : Gl p e below s R n0 Q T (mkF m pf L r)) : Gl p e below s R n0 Q T (mkF m pc L (.null :: r)) := by
  obtain ⟨locs, X, -⟩ := S; subst hq
  exact kk.st fun _ q => XS.ifnonnullNo X.here C.1 rfl (hb C.2.2.1 hd) rfl q
theorem g_ifnull_null (C : Cx p s m meth c Z own name cod maxL ret) (S : On p l e R s m args below meth c n0 T h k n) {o : Int} (hd : decode cod pc = .ok (.ifnull o, 3)) (ho : 0 ≤ (pc : Int) + o) (hp : ((pc : Int) + o).toNat = pc') (kk : Gl p e below s R n0 Q T (mkF m pc' L r)) : Gl p e below s R n0 Q T (mkF m pc L (.null :: r)) := by
  obtain ⟨locs, X, -⟩ := S
  exact kk.st fun _ q => XS.ifnullYes X.here C.1 rfl rfl (hb C.2.2.1 hd) rfl ho hp q
theorem g_ifnull_ref (C : Cx p s m meth c Z own name cod maxL ret) (S : On p l e R s m args below meth c n0 T h k n) {o : Int} (hd : decode cod pc = .ok (.ifnull o, 3)) (hq : pc + 3 = pf) (kk : Gl p e below s R n0 Q T (mkF m pf L r)) : Gl p e below s R n0 Q T (mkF m pc L (.ref a :: r)) := by
  obtain ⟨locs, X, -⟩ := S; subst hq
  exact kk.st fun _ q => XS.ifnullNo X.here C.1 rfl (hb C.2.2.1 hd) rfl q
theorem g_acmp_eq (C : Cx p s m meth c Z own name cod maxL ret) (S : On p l e R s m args below meth c n0 T h k n) {x y : Value} (hx : x.isRef = true) (hy : y.isRef = true) {o : Int} (hd : decode cod pc = .ok (.if_acmp .eq o, 3)) (ho : 0 ≤ (pc : Int) + o) (hp : ((pc : Int) + o).toNat = pc') (hq : pc + 3 = pf) (ht : x = y → Gl p e below s R n0 Q T (mkF m pc' L r)) (hf : ¬ x = y → Gl p e below s R n0 Q T (mkF m pf L r)) : Gl p e below s R n0 Q T (mkF m pc L (y :: x :: r)) := by
  obtain ⟨locs, X, -⟩ := S; subst hq hp
  by_cases q : x = y
  · exact (ht q).st fun _ z => Jvm.RoadKit.acmp X C.1 rfl hx hy (same := true) rfl (hb C.2.2.1 hd) rfl (decide_eq_true q) ho (by simp [acV]) z
  · exact (hf q).st fun _ z => Jvm.RoadKit.acmp X C.1 rfl hx hy (same := false) rfl (hb C.2.2.1 hd) rfl (decide_eq_false q) ho (by simp [acV]) z
theorem g_acmp_ne (C : Cx p s m meth c Z own name cod maxL ret) (S : On p l e R s m args below meth c n0 T h k n) {x y : Value} (hx : x.isRef = true) (hy : y.isRef = true) {o : Int} (hd : decode cod pc = .ok (.if_acmp .ne o, 3)) (ho : 0 ≤ (pc : Int) + o) (hp : ((pc : Int) + o).toNat = pc') (hq : pc + 3 = pf) (ht : ¬ x = y → Gl p e below s R n0 Q T (mkF m pc' L r)) (hf : x = y → Gl p e below s R n0 Q T (mkF m pf L r)) : Gl p e below s R n0 Q T (mkF m pc L (y :: x :: r)) := by
  obtain ⟨locs, X, -⟩ := S; subst hq hp
  by_cases q : x = y
  · exact (hf q).st fun _ z => Jvm.RoadKit.acmp X C.1 rfl hx hy (same := true) rfl (hb C.2.2.1 hd) rfl (decide_eq_true q) ho (by simp [acV]) z
  · exact (ht q).st fun _ z => Jvm.RoadKit.acmp X C.1 rfl hx hy (same := false) rfl (hb C.2.2.1 hd) rfl (decide_eq_false q) ho (by simp [acV]) z
theorem g_ldc (C : Cx p s m meth c Z own name cod maxL ret) (S : On p l e R s m args below meth c n0 T h k n) {v : Int32} {i : Nat} (hd : decode cod pc = .ok (.ldc i, 2)) (w : (Jvm.Cond.constant own i v).before a0 Z = true) (hp : pc + 2 = pc') (kk : Gl p e below s R n0 Q T (mkF m pc' L (.int v :: r))) : Gl p e below s R n0 Q T (mkF m pc L r) := by
  obtain ⟨locs, X, -⟩ := S; subst hp
  exact kk.st fun t q => X.ldcInt (g := mkF m pc L r) C.1 C.2.2.2.2.1 (mvT C.2.1 w) rfl (hb C.2.2.1 hd) t q
theorem g_ldc2 (C : Cx p s m meth c Z own name cod maxL ret) (S : On p l e R s m args below meth c n0 T h k n) {v : Int64} {i : Nat} (hd : decode cod pc = .ok (.ldc2_w i, 3)) (w : (Jvm.Cond.constantLong own i v).before a0 Z = true) (hp : pc + 3 = pc') (kk : Gl p e below s R n0 Q T (mkF m pc' L (.long v :: r))) : Gl p e below s R n0 Q T (mkF m pc L r) := by
  obtain ⟨locs, X, -⟩ := S; subst hp
  exact kk.st fun t q => X.ldc2Long (g := mkF m pc L r) C.1 C.2.2.2.2.1 (mvT C.2.1 w) rfl (hb C.2.2.1 hd) t q
theorem g_leave (C : Cx p s m meth c Z own name cod maxL ret) (S : On p l e R s m args below meth c n0 T h k n) {v : Option Value} (hk : k ≤ R.cells) (hn : n ≤ R.slots) (hv : meth.sig.returnType = none → v = none) (q : Q v h)
    (hst : ∀ fs, (∀ (f : JFrame) (acts : List Action), f.method = m → f.locked = none → f.entered = [] → (doReturn e (T.setTop f) acts v).1 = T.setFrames fs) → ∀ locs, Stand p l e R s m args below meth c T locs k n → Steps p.tables e below (T.setTop (mkF m pc L r)) (T.setFrames fs)) : Gl p e below s R n0 Q T (mkF m pc L r) := by
  obtain ⟨locs, X, N, eh⟩ := S
  obtain ⟨fs, hr, hrun, hended, hW, hsame⟩ := X.leave (v := v) hv C.2.2.2.2.2.2.2
  have q' : Q v (T.setFrames fs).heap := by show Q v T.heap; rw [eh]; exact q
  exact ⟨_, _, hst fs hr locs X, hrun, hended, _, _, rfl, ⟨q', N⟩, ⟨_, rfl⟩, hW, hsame.mono hk hn⟩
theorem g_return (C : Cx p s m meth c Z own name cod maxL none) (S : On p l e R s m args below meth c n0 T h k n) (hd : decode cod pc = .ok (.return_, 1)) (hk : k ≤ R.cells) (hn : n ≤ R.slots) (q : Q none h) : Gl p e below s R n0 Q T (mkF m pc L []) :=
  g_leave C S (v := none) hk hn (fun _ => rfl) q fun fs hr locs X => X.returnOut C.1 C.2.2.2.2.2.2.1 (hb C.2.2.1 hd) hr
theorem g_retv {t : FieldType} {w : Value} {i : Instr} (C : Cx p s m meth c Z own name cod maxL (some t)) (S : On p l e R s m args below meth c n0 T h k n) (hd : decode cod pc = .ok (i, 1)) (hn' : narrow t w = w) (hi : (i = .ireturn ∧ (t = .int ∨ t = .boolean ∨ t = .byte ∨ t = .char ∨ t = .short) ∧ ∃ z, w = .int z) ∨ (i = .lreturn ∧ t = .long ∧ ∃ z, w = .long z) ∨ (i = .dreturn ∧ t = .double ∧ ∃ z, w = .double z) ∨ (i = .freturn ∧ t = .float ∧ ∃ z, w = .float z) ∨ (i = .areturn ∧ t.isReference = true ∧ w.isRef = true)) (hk : k ≤ R.cells) (hn : n ≤ R.slots) (q : Q (some w) h) : Gl p e below s R n0 Q T (mkF m pc L (w :: r)) :=
  g_leave C S (v := some w) hk hn (fun z => by rw [C.2.2.2.2.2.2.1] at z; cases z) q fun fs hr locs X => retOut X C.1 C.2.2.2.2.2.2.1 hn' hi (hb C.2.2.1 hd) hr
theorem g_retI {z : Int32} (C : Cx p s m meth c Z own name cod maxL (some .int)) (S : On p l e R s m args below meth c n0 T h k n) (hd : decode cod pc = .ok (.ireturn, 1)) (hk : k ≤ R.cells) (hn : n ≤ R.slots) (q : Q (some (.int z)) h) : Gl p e below s R n0 Q T (mkF m pc L (.int z :: r)) := g_retv C S hd rfl (Or.inl ⟨rfl, Or.inl rfl, z, rfl⟩) hk hn q
theorem g_retZ {z : Int32} (C : Cx p s m meth c Z own name cod maxL (some .boolean)) (S : On p l e R s m args below meth c n0 T h k n) (hd : decode cod pc = .ok (.ireturn, 1)) (hz : z &&& 1 = z) (hk : k ≤ R.cells) (hn : n ≤ R.slots) (q : Q (some (.int z)) h) : Gl p e below s R n0 Q T (mkF m pc L (.int z :: r)) := g_retv C S hd (congrArg Value.int hz) (Or.inl ⟨rfl, Or.inr (Or.inl rfl), z, rfl⟩) hk hn q
theorem g_retJ {z : Int64} (C : Cx p s m meth c Z own name cod maxL (some .long)) (S : On p l e R s m args below meth c n0 T h k n) (hd : decode cod pc = .ok (.lreturn, 1)) (hk : k ≤ R.cells) (hn : n ≤ R.slots) (q : Q (some (.long z)) h) : Gl p e below s R n0 Q T (mkF m pc L (.long z :: r)) := g_retv C S hd rfl (Or.inr (Or.inl ⟨rfl, rfl, z, rfl⟩)) hk hn q
theorem g_retA {t : FieldType} {w : Value} (C : Cx p s m meth c Z own name cod maxL (some t)) (S : On p l e R s m args below meth c n0 T h k n) (hd : decode cod pc = .ok (.areturn, 1)) (ht : t.isReference = true) (hw : w.isRef = true) (hnw : narrow t w = w) (hk : k ≤ R.cells) (hn : n ≤ R.slots) (q : Q (some w) h) : Gl p e below s R n0 Q T (mkF m pc L (w :: r)) := g_retv C S hd hnw (Or.inr (Or.inr (Or.inr (Or.inr ⟨rfl, ht, hw⟩)))) hk hn q
theorem g_getF (C : Cx p s m meth c Z own name cod maxL ret) (S : On p l e R s m args below meth c n0 T h k n) {R0 O nm d host : String} {i : Nat} {v : Value} (hd : decode cod pc = .ok (.getfield i, 3)) (w : (Jvm.Cond.fieldLink own i R0 nm d).before a0 Z = true ∨ (Jvm.Cond.fieldLinkNest own i R0 nm d host).before a0 Z = true) (via : Via Z R0 O nm d) (F : Fld Z h a O nm d v) (hp : pc + 3 = pc') (kk : ∀ T', On p l e R s m args below meth c n0 T' h k n → Gl p e below s R n0 Q T' (mkF m pc' L (v :: r))) : Gl p e below s R n0 Q T (mkF m pc L (.ref a :: r)) := by
  obtain ⟨locs, X, N, eh⟩ := S; subst hp
  obtain ⟨T', X', eT, st⟩ := getF X C.1 C.2.1 C.2.2.2.2.1 w via eh F (g := mkF m pc L (.ref a :: r)) rfl rfl (hb C.2.2.1 hd)
  exact (kk T' ⟨locs, X', N, eT⟩).st st
theorem g_getS (C : Cx p s m meth c Z own name cod maxL ret) (S : On p l e R s m args below meth c n0 T h k n) {R0 O nm d host : String} {i : Nat} {v : Value} (hd : decode cod pc = .ok (.getstatic i, 3)) (w : (Jvm.Cond.fieldLink own i R0 nm d).before a0 Z = true ∨ (Jvm.Cond.fieldLinkNest own i R0 nm d host).before a0 Z = true) (via : Via Z R0 O nm d) (F : Sta Z h O nm d v) (hp : pc + 3 = pc') (kk : ∀ T', On p l e R s m args below meth c n0 T' h k n → Gl p e below s R n0 Q T' (mkF m pc' L (v :: r))) : Gl p e below s R n0 Q T (mkF m pc L r) := by
  obtain ⟨locs, X, N, eh⟩ := S; subst hp
  obtain ⟨T', X', eT, st⟩ := getS2 X C.1 C.2.1 C.2.2.2.2.1 w via eh F (g := mkF m pc L r) rfl (hb C.2.2.1 hd)
  exact (kk T' ⟨locs, X', N, eT⟩).st st
theorem g_putF (C : Cx p s m meth c Z own name cod maxL ret) (S : On p l e R s m args below meth c n0 T h k n) {R0 O nm d host K : String} {i kk0 : Nat} {ty : FieldType} {v old : Value} (hd : decode cod pc = .ok (.putfield i, 3)) (w : (Jvm.Cond.fieldLink own i R0 nm d).before a0 Z = true ∨ (Jvm.Cond.fieldLinkNest own i R0 nm d host).before a0 Z = true) (via : Via Z R0 O nm d) (F : Fld Z h a O nm d old) (E : Exa Z h a K) (Ly : (Jvm.Cond.lays K O nm d).before a0 Z = true ∨ ((Jvm.Cond.laysFinal K O nm d).before a0 Z = true ∧ own = O ∧ name = "<init>")) (wi : (Jvm.Cond.instantiable K kk0).before a0 Z = true) (hty : parseFieldDescriptor d = some ty) (hnr : narrow ty v = v) (hft : fits ty v = true) (ga : n0 ≤ a) (hp : pc + 3 = pc') (kk : ∀ T' h', On p l e R s m args below meth c n0 T' h' k n → Wr h h' a (Jvm.RoadKit.slotOf Z O nm d) v → Gl p e below s R n0 Q T' (mkF m pc' L r)) : Gl p e below s R n0 Q T (mkF m pc L (v :: .ref a :: r)) := by
  obtain ⟨locs, X, N, eh⟩ := S; subst hp
  obtain ⟨T', h', X', eT, W, st⟩ := putF X C.1 C.2.1 C.2.2.2.2.1 w via eh F E (Ly.imp id fun q => ⟨q.1, q.2.1, C.2.2.2.2.2.1.trans q.2.2⟩) wi hty hnr hft (g := mkF m pc L (v :: .ref a :: r)) rfl rfl (hb C.2.2.1 hd)
  exact (kk T' h' ⟨_, X', Fr.snoc X' N ga, eT⟩ W).st st
theorem g_new (C : Cx p s m meth c Z own name cod maxL ret) (S : On p l e R s m args below meth c n0 T h k n) {K : String} {i sz : Nat} (hd : decode cod pc = .ok (.new i, 3)) (w : (Jvm.Cond.classLink own i K).before a0 Z = true) (wi : (Jvm.Cond.instantiable K sz).before a0 Z = true) (wz : (Jvm.Cond.initialized K).before a0 Z = true) (hc : k + 1 ≤ R.cells) (hl : n + sz ≤ R.slots) (hp : pc + 3 = pc') (kk : ∀ T' h' a, On p l e R s m args below meth c n0 T' h' (k + 1) (n + sz) → a = h.size → Ext h h' → Exa Z h' a K → (∀ {O nm d : String} {ty : FieldType}, Laid Z a0 K O nm d → parseFieldDescriptor d = some ty → Fld Z h' a O nm d (defaultValue ty)) → Gl p e below s R n0 Q T' (mkF m pc' L (.ref a :: r))) : Gl p e below s R n0 Q T (mkF m pc L r) := by
  obtain ⟨locs, X, N, eh⟩ := S; subst hp
  obtain ⟨T', h', X', eT, E, A, D, -, st⟩ := newO X C.1 C.2.1 C.2.2.2.2.1 w wi wz eh (g := mkF m pc L r) rfl (hb C.2.2.1 hd) hc hl
  exact (kk T' h' h.size ⟨_, X', N, eT⟩ rfl E A D).st st
theorem g_initO (C : Cx p s m meth c Z own name cod maxL ret) (S : On p l e R s m args below meth c n0 T h k n) {i W : Nat} (hd : decode cod pc = .ok (.invokespecial i, 3)) (w1 : (Jvm.Cond.methodLink own i Lib.objectInit).before a0 Z = true) (w2 : (Jvm.Cond.instanceMethod Lib.objectInit).before a0 Z = true) (w3 : (Jvm.Cond.code Lib.objectInit ⟨#[0xb1]⟩ 1 none).before a0 Z = true) (hsz : L.size = maxL) (hf : 1 ≤ R.frames) (hW : (r.map fun v => v.category).sum ≤ W) (hl : W + 12 ≤ R.locals) (hp : pc + 3 = pc') (kk : ∀ T', On p l e R s m args below meth c n0 T' h k n → Gl p e below s R n0 Q T' (mkF m pc' L r)) : Gl p e below s R n0 Q T (mkF m pc L (.ref a :: r)) := by
  obtain ⟨locs, X, N, eh⟩ := S; subst hp
  obtain ⟨T', X', eT, st⟩ := initO X C.1 C.2.1 C.2.2.2.2.1 w1 w2 w3 eh (g := mkF m pc L (.ref a :: r)) rfl (hsz.trans C.2.2.2.1.symm) rfl (hb C.2.2.1 hd) hf (W := W) (by simpa using hW) hl
  exact (kk T' ⟨locs, X', N, eT⟩).st st
theorem notFace_of_inst {y : MethodName} {sz : Nat} (hZ : Z.Warmed39 s.vm) (wi : (Jvm.Cond.instantiable y.cls sz).before a0 Z = true) : NotFace s y := fun r0 h0 => by
  obtain ⟨c0, k0, i1, i2, -, i4, -⟩ := Cond.instantiable_spec (mvT (s := s) (args := #[]) hZ wi)
  have q := findClass_of_methodNamed h0
  rw [i1] at q; cases q
  exact ⟨k0, i2, (Bool.or_eq_false_iff.mp i4).1⟩
theorem g_callS (C : Cx p s m meth c Z own name cod maxL ret) (S : On p l e R s m args below meth c n0 T h k n) {y : MethodName} {bytes : ByteArray} {mx i W : Nat} {rt : Option FieldType} {rm : Room} {Q' : Option Value → Heap → Prop} {argsL stk : List Value} (hd : decode cod pc = .ok (.invokestatic i, 3)) (w1 : (Jvm.Cond.methodLink own i y).before a0 Z = true) (w2 : (Jvm.Cond.static y).before a0 Z = true) (w3 : (Jvm.Cond.initialized y.cls).before a0 Z = true) (w4 : (Jvm.Cond.code y bytes mx rt).before a0 Z = true) (hy : y.cls ≠ "java/lang/invoke/MethodHandle" ∧ y.cls ≠ "java/lang/invoke/VarHandle") (K : Con l Z y bytes mx rt rm argsL.toArray h n0 Q') (hst : stk = argsL.reverse ++ r) (hlen : ∀ sig, parseMethodDescriptor y.desc = some sig → argsL.length = sig.parameters.length) (hsz : L.size = maxL) (hW : (r.map fun v => v.category).sum ≤ W) (hf : rm.frames + 1 ≤ R.frames) (hlo : W + (mx + 11) + rm.locals ≤ R.locals) (hce : k + rm.cells ≤ R.cells) (hsl : n + rm.slots ≤ R.slots) (hp : pc + 3 = pc') (kk : ∀ T' h' v, Q' v h' → On p l e R s m args below meth c n0 T' h' (k + rm.cells) (n + rm.slots) → Gl p e below s R n0 Q T' (mkF m pc' L (v.toList ++ r))) : Gl p e below s R n0 Q T (mkF m pc L stk) := by
  obtain ⟨locs, X, N, eh⟩ := S; subst hp
  obtain ⟨v, vm1, ⟨T', L1, k1, n1⟩, -, X', ⟨Lc, hQ, l', y', z'⟩, st⟩ := Jvm.LawKit.callS X C.1 (y := y) C.2.2.2.2.1 (mvT C.2.1 w1) (mvT C.2.1 w2) (mvT C.2.1 w3) (mvT C.2.1 w4) hy (backOf (W := W) (Q := fun v h L => Q' v h ∧ Fr n0 L) (K []) C.2.1 w4 w3 hf hlo) (g := mkF m pc L stk) rfl (hsz.trans C.2.2.2.1.symm) (argsL := argsL) (rest := r) hlen hst (by simpa using hW) (hb C.2.2.1 hd) (fun _ _ => ⟨rfl, eh, hce, hsl⟩)
  dsimp only [Pt.U, Pt.locs, Pt.cells, Pt.slots] at X' st hQ l' y' z'
  subst l' y' z'
  exact (kk T' T'.heap v hQ.1 ⟨_, X', N.app hQ.2, rfl⟩).st st
theorem g_callI (C : Cx p s m meth c Z own name cod maxL ret) (S : On p l e R s m args below meth c n0 T h k n) {y : MethodName} {bytes : ByteArray} {mx i W : Nat} {rm : Room} {Q' : Option Value → Heap → Prop} {argsL stk : List Value} (hd : decode cod pc = .ok (.invokespecial i, 3)) (hy1 : y.name = "<init>") (w1 : (Jvm.Cond.methodLink own i y).before a0 Z = true) (w2 : (Jvm.Cond.instanceMethod y).before a0 Z = true) (w3 : (Jvm.Cond.initialized y.cls).before a0 Z = true) (w4 : (Jvm.Cond.code y bytes mx none).before a0 Z = true) (hy : y.cls ≠ "java/lang/invoke/MethodHandle" ∧ y.cls ≠ "java/lang/invoke/VarHandle") (K : Con l Z y bytes mx none rm (.ref a :: argsL).toArray h n0 Q') (hst : stk = argsL.reverse ++ .ref a :: r) (hlen : ∀ sig, parseMethodDescriptor y.desc = some sig → argsL.length = sig.parameters.length) (hsz : L.size = maxL) (hW : (r.map fun v => v.category).sum ≤ W) (hf : rm.frames + 1 ≤ R.frames) (hlo : W + (mx + 11) + rm.locals ≤ R.locals) (hce : k + rm.cells ≤ R.cells) (hsl : n + rm.slots ≤ R.slots) (hp : pc + 3 = pc') (kk : ∀ T' h' v, Q' v h' → On p l e R s m args below meth c n0 T' h' (k + rm.cells) (n + rm.slots) → Gl p e below s R n0 Q T' (mkF m pc' L (v.toList ++ r))) : Gl p e below s R n0 Q T (mkF m pc L stk) := by
  obtain ⟨locs, X, N, eh⟩ := S; subst hp
  obtain ⟨v, vm1, ⟨T', L1, k1, n1⟩, -, X', ⟨Lc, hQ, l', y', z'⟩, st⟩ := X.specialBack C.1 (y := y) hy1 C.2.2.2.2.1 (mvT C.2.1 w1) (mvT C.2.1 w2) (mvT C.2.1 w4) hy (backOf (W := W) (Q := fun v h L => Q' v h ∧ Fr n0 L) (K []) C.2.1 w4 w3 hf hlo) (g := mkF m pc L stk) rfl (hsz.trans C.2.2.2.1.symm) (Steps.refl _) (a := a) (argsL := argsL) (rest := r) hlen hst (by simpa using hW) (hb C.2.2.1 hd) (fun _ _ => ⟨rfl, eh, hce, hsl⟩)
  dsimp only [Pt.U, Pt.locs, Pt.cells, Pt.slots] at X' st hQ l' y' z'
  subst l' y' z'
  exact (kk T' T'.heap v hQ.1 ⟨_, X', N.app hQ.2, rfl⟩).st fun _ q => st.trans q
theorem g_callV (C : Cx p s m meth c Z own name cod maxL ret) (S : On p l e R s m args below meth c n0 T h k n) {K : String} {y z : MethodName} {bytes : ByteArray} {mx i W : Nat} {rt : Option FieldType} {rm : Room} {Q' : Option Value → Heap → Prop} {argsL stk : List Value} (hd : decode cod pc = .ok (.invokevirtual i, 3)) (w1 : (Jvm.Cond.methodLink own i y).before a0 Z = true) (w2 : (Jvm.Cond.declares y).before a0 Z = true) (hnf : NotFace s y) (w5 : (Jvm.Cond.selects K y z).before a0 Z = true) (w6 : (Jvm.Cond.instanceMethod z).before a0 Z = true) (w3 : (Jvm.Cond.initialized z.cls).before a0 Z = true) (w4 : (Jvm.Cond.code z bytes mx rt).before a0 Z = true) (hy : y.cls ≠ "java/lang/invoke/MethodHandle" ∧ y.cls ≠ "java/lang/invoke/VarHandle") (hyK : y.cls = K) (E : Exa Z h a K) (Kc : Con l Z z bytes mx rt rm (.ref a :: argsL).toArray h n0 Q') (hst : stk = argsL.reverse ++ .ref a :: r) (hlen : ∀ sig, parseMethodDescriptor y.desc = some sig → argsL.length = sig.parameters.length) (hsz : L.size = maxL) (hW : (r.map fun v => v.category).sum ≤ W) (hf : rm.frames + 1 ≤ R.frames) (hlo : W + (mx + 11) + rm.locals ≤ R.locals) (hce : k + rm.cells ≤ R.cells) (hsl : n + rm.slots ≤ R.slots) (hp : pc + 3 = pc') (kk : ∀ T' h' v, Q' v h' → On p l e R s m args below meth c n0 T' h' (k + rm.cells) (n + rm.slots) → Gl p e below s R n0 Q T' (mkF m pc' L (v.toList ++ r))) : Gl p e below s R n0 Q T (mkF m pc L stk) := by
  obtain ⟨locs, X, N, eh⟩ := S; subst hp hyK
  obtain ⟨cq, kq, qa, qb, qc⟩ := isOf C.2.1 eh E
  obtain ⟨v, vm1, ⟨T', L1, k1, n1⟩, -, X', ⟨Lc, hQ, l', y', z'⟩, st⟩ := X.virtualBack C.1 (y := y) (z := z) C.2.2.2.2.1 (mvT C.2.1 w1) (mvT C.2.1 w2) hnf (mvT C.2.1 w5) (mvT C.2.1 w6) hy (backOf (W := W) (Q := fun v h L => Q' v h ∧ Fr n0 L) (Kc []) C.2.1 w4 w3 hf hlo) qa qc (g := mkF m pc L stk) rfl (hsz.trans C.2.2.2.1.symm) (Steps.refl _) (argsL := argsL) (rest := r) hlen hst (by simpa using hW) (hb C.2.2.1 hd) (fun _ _ => ⟨rfl, eh, hce, hsl⟩)
  dsimp only [Pt.U, Pt.locs, Pt.cells, Pt.slots] at X' st hQ l' y' z'
  subst l' y' z'
  exact (kk T' T'.heap v hQ.1 ⟨_, X', N.app hQ.2, rfl⟩).st fun _ q => st.trans q
theorem g_callP (C : Cx p s m meth c Z own name cod maxL ret) (S : On p l e R s m args below meth c n0 T h k n) {y : MethodName} {bytes : ByteArray} {mx i W sz : Nat} {rt : Option FieldType} {rm : Room} {Q' : Option Value → Heap → Prop} {argsL stk : List Value} (hd : decode cod pc = .ok (.invokevirtual i, 3)) (w1 : (Jvm.Cond.methodLink own i y).before a0 Z = true) (w2 : (Jvm.Cond.instanceMethod y).before a0 Z = true) (wp : (Jvm.Cond.privateMethod y).before a0 Z = true) (wi : (Jvm.Cond.instantiable y.cls sz).before a0 Z = true) (w3 : (Jvm.Cond.initialized y.cls).before a0 Z = true) (w4 : (Jvm.Cond.code y bytes mx rt).before a0 Z = true) (hy : y.cls ≠ "java/lang/invoke/MethodHandle" ∧ y.cls ≠ "java/lang/invoke/VarHandle") (E : Exa Z h a y.cls) (Kc : Con l Z y bytes mx rt rm (.ref a :: argsL).toArray h n0 Q') (hst : stk = argsL.reverse ++ .ref a :: r) (hlen : ∀ sig, parseMethodDescriptor y.desc = some sig → argsL.length = sig.parameters.length) (hsz : L.size = maxL) (hW : (r.map fun v => v.category).sum ≤ W) (hf : rm.frames + 1 ≤ R.frames) (hlo : W + (mx + 11) + rm.locals ≤ R.locals) (hce : k + rm.cells ≤ R.cells) (hsl : n + rm.slots ≤ R.slots) (hp : pc + 3 = pc') (kk : ∀ T' h' v, Q' v h' → On p l e R s m args below meth c n0 T' h' (k + rm.cells) (n + rm.slots) → Gl p e below s R n0 Q T' (mkF m pc' L (v.toList ++ r))) : Gl p e below s R n0 Q T (mkF m pc L stk) := by
  obtain ⟨locs, X, N, eh⟩ := S; subst hp
  obtain ⟨cq, q1, q2⟩ := E.cell
  obtain ⟨c0, k0, i1, i2, i3, i4, -⟩ := Cond.instantiable_spec (mvT (s := s) (args := args) C.2.1 wi)
  have hpr := Cond.privateMethod_at (mvP (s := s) (args := args) C.2.1 wp)
  have hs := selects_self_of_private (args := args) i1 i2 (Bool.or_eq_false_iff.mp i4).1 hpr (mvT C.2.1 w2) hy
  obtain ⟨v, vm1, ⟨T', L1, k1, n1⟩, -, X', ⟨Lc, hQ, l', y', z'⟩, st⟩ := X.privateBack C.1 (y := y) C.2.2.2.2.1 (mvT C.2.1 w1) (mvT C.2.1 w2) hs hpr (mvT C.2.1 w4) hy (backOf (W := W) (Q := fun v h L => Q' v h ∧ Fr n0 L) (Kc []) C.2.1 w4 w3 hf hlo) (g := mkF m pc L stk) rfl (hsz.trans C.2.2.2.1.symm) (Steps.refl _) (a := a) (by rw [eh]; exact q1) q2 (argsL := argsL) (rest := r) hlen hst (by simpa using hW) (hb C.2.2.1 hd) (fun _ _ => ⟨rfl, eh, hce, hsl⟩)
  dsimp only [Pt.U, Pt.locs, Pt.cells, Pt.slots] at X' st hQ l' y' z'
  subst l' y' z'
  exact (kk T' T'.heap v hQ.1 ⟨_, X', N.app hQ.2, rfl⟩).st fun _ q => st.trans q
/-- an array: its length and what each place holds -/
def Ary (Z : State) (h : Heap) (a : Addr) (ty : FieldType) (n : Nat) (f : Nat → Value) : Prop := ∃ c : Cell, Arr Z h a c ty ∧ c.slots.size = n ∧ ∀ i, i < n → c.slots[i]? = some (f i)
variable {ty : FieldType} {N i : Nat} {f : Nat → Value} {v : Value} {sl : Nat} {j x : Int32} {ws : List Addr}
theorem Ary.lt (A : Ary Z h a ty N f) : a < h.size := by obtain ⟨c, A, -⟩ := A; exact A.lt
theorem Ary.ext (A : Ary Z h a ty N f) (E : Ext h h') : Ary Z h' a ty N f := by obtain ⟨c, A, q⟩ := A; exact ⟨c, A.ext E, q⟩
theorem Ary.other (A : Ary Z h a ty N f) (W : Wr h h' b sl v) (q : a ≠ b) : Ary Z h' a ty N f := by obtain ⟨c, A, z⟩ := A; exact ⟨c, A.other W q, z⟩
theorem Ary.keep (A : Ary Z h a ty N f) (K : Keep h h' ws) (q : a ∉ ws) : Ary Z h' a ty N f := by obtain ⟨c, A, z⟩ := A; exact ⟨c, ⟨K.2.1 a c A.1 q, A.2⟩, z⟩
theorem Ary.cg {f' : Nat → Value} (A : Ary Z h a ty N f) (q : ∀ i, i < N → f i = f' i) : Ary Z h a ty N f' := by obtain ⟨c, A, s, z⟩ := A; exact ⟨c, A, s, fun i hi => by rw [← q i hi]; exact z i hi⟩
theorem Ary.same (A : Ary Z h a ty N f) (W : Wr h h' a i v) : Ary Z h' a ty N (fun q => if q = i then v else f q) := by
  obtain ⟨c, A, s, z⟩ := A
  refine ⟨_, A.same W, by rw [sz_set]; exact s, fun q hq => ?_⟩
  by_cases u : q = i
  · subst u; simp [Cell.setSlot, s, hq]
  · simp only [u, if_false]; simp only [Cell.setSlot]; rw [Array.getElem?_setIfInBounds_ne (fun w => u w.symm)]; exact z q hq
theorem idx_nat {c : Cell} (hj : j.toInt = (i : Int)) (hi : i < c.slots.size) : ¬ (j < 0 ∨ c.slots.size ≤ j.toNatClampNeg) ∧ j.toNatClampNeg = i := by
  have e : j.toNatClampNeg = i := by simp only [Int32.toNatClampNeg, hj]; omega
  refine ⟨?_, e⟩
  rw [e, Int32.lt_iff_toInt_lt, hj]
  have : (0 : Int32).toInt = 0 := rfl
  omega
theorem g_iaload (C : Cx p s m meth c Z own name cod maxL ret) (S : On p l e R s m args below meth c n0 T h k n) (hd : decode cod pc = .ok (.iaload, 1)) (A : Ary Z h a .int N f) (hj : j.toInt = (i : Int)) (hi : i < N) (hv : f i = v) (hp : pc + 1 = pc') (kk : Gl p e below s R n0 Q T (mkF m pc' L (v :: r))) : Gl p e below s R n0 Q T (mkF m pc L (.int j :: .ref a :: r)) := by
  obtain ⟨locs, X, N, eh⟩ := S; subst hp
  obtain ⟨cl, A, sz, z⟩ := A
  obtain ⟨q1, q2⟩ := idx_nat (c := cl) hj (by rw [sz]; exact hi)
  exact kk.st fun t q => X.iaload (g := mkF m pc L (.int j :: .ref a :: r)) C.1 (by rw [eh]; exact A.1) (State.isArrayOf_alike C.2.1.alike A.2.1) A.2.2 q1 (by rw [q2, ← hv]; exact z i hi) rfl rfl (hb C.2.2.1 hd) t q
theorem g_laload (C : Cx p s m meth c Z own name cod maxL ret) (S : On p l e R s m args below meth c n0 T h k n) (hd : decode cod pc = .ok (.laload, 1)) (A : Ary Z h a .long N f) (hj : j.toInt = (i : Int)) (hi : i < N) (hv : f i = v) (hp : pc + 1 = pc') (kk : Gl p e below s R n0 Q T (mkF m pc' L (v :: r))) : Gl p e below s R n0 Q T (mkF m pc L (.int j :: .ref a :: r)) := by
  obtain ⟨locs, X, N, eh⟩ := S; subst hp
  obtain ⟨cl, A, sz, z⟩ := A
  obtain ⟨q1, q2⟩ := idx_nat (c := cl) hj (by rw [sz]; exact hi)
  exact kk.st fun t q => X.laload (g := mkF m pc L (.int j :: .ref a :: r)) C.1 (by rw [eh]; exact A.1) (State.isArrayOf_alike C.2.1.alike A.2.1) A.2.2 q1 (by rw [q2, ← hv]; exact z i hi) rfl rfl (hb C.2.2.1 hd) t q
theorem g_caload (C : Cx p s m meth c Z own name cod maxL ret) (S : On p l e R s m args below meth c n0 T h k n) (hd : decode cod pc = .ok (.caload, 1)) (A : Ary Z h a .char N f) (hj : j.toInt = (i : Int)) (hi : i < N) (hv : f i = v) (hp : pc + 1 = pc') (kk : Gl p e below s R n0 Q T (mkF m pc' L (v :: r))) : Gl p e below s R n0 Q T (mkF m pc L (.int j :: .ref a :: r)) := by
  obtain ⟨locs, X, N, eh⟩ := S; subst hp
  obtain ⟨cl, A, sz, z⟩ := A
  obtain ⟨q1, q2⟩ := idx_nat (c := cl) hj (by rw [sz]; exact hi)
  exact kk.st fun t q => X.caload (g := mkF m pc L (.int j :: .ref a :: r)) C.1 (by rw [eh]; exact A.1) (State.isArrayOf_alike C.2.1.alike A.2.1) A.2.2 q1 (by rw [q2, ← hv]; exact z i hi) rfl rfl (hb C.2.2.1 hd) t q
theorem g_saload (C : Cx p s m meth c Z own name cod maxL ret) (S : On p l e R s m args below meth c n0 T h k n) (hd : decode cod pc = .ok (.saload, 1)) (A : Ary Z h a .short N f) (hj : j.toInt = (i : Int)) (hi : i < N) (hv : f i = v) (hp : pc + 1 = pc') (kk : Gl p e below s R n0 Q T (mkF m pc' L (v :: r))) : Gl p e below s R n0 Q T (mkF m pc L (.int j :: .ref a :: r)) := by
  obtain ⟨locs, X, N, eh⟩ := S; subst hp
  obtain ⟨cl, A, sz, z⟩ := A
  obtain ⟨q1, q2⟩ := idx_nat (c := cl) hj (by rw [sz]; exact hi)
  exact kk.st fun t q => X.saload (g := mkF m pc L (.int j :: .ref a :: r)) C.1 (by rw [eh]; exact A.1) (State.isArrayOf_alike C.2.1.alike A.2.1) A.2.2 q1 (by rw [q2, ← hv]; exact z i hi) rfl rfl (hb C.2.2.1 hd) t q
theorem g_baloadB (C : Cx p s m meth c Z own name cod maxL ret) (S : On p l e R s m args below meth c n0 T h k n) (hd : decode cod pc = .ok (.baload, 1)) (A : Ary Z h a .byte N f) (hj : j.toInt = (i : Int)) (hi : i < N) (hv : f i = v) (hp : pc + 1 = pc') (kk : Gl p e below s R n0 Q T (mkF m pc' L (v :: r))) : Gl p e below s R n0 Q T (mkF m pc L (.int j :: .ref a :: r)) := by
  obtain ⟨locs, X, N, eh⟩ := S; subst hp
  obtain ⟨cl, A, sz, z⟩ := A
  obtain ⟨q1, q2⟩ := idx_nat (c := cl) hj (by rw [sz]; exact hi)
  exact kk.st fun t q => X.baloadBytes (g := mkF m pc L (.int j :: .ref a :: r)) C.1 (by rw [eh]; exact A.1) (State.isArrayOf_alike C.2.1.alike A.2.1) A.2.2 q1 (by rw [q2, ← hv]; exact z i hi) rfl rfl (hb C.2.2.1 hd) t q
theorem g_baloadZ (C : Cx p s m meth c Z own name cod maxL ret) (S : On p l e R s m args below meth c n0 T h k n) (hd : decode cod pc = .ok (.baload, 1)) (A : Ary Z h a .boolean N f) (hj : j.toInt = (i : Int)) (hi : i < N) (hv : f i = v) (hp : pc + 1 = pc') (kk : Gl p e below s R n0 Q T (mkF m pc' L (v :: r))) : Gl p e below s R n0 Q T (mkF m pc L (.int j :: .ref a :: r)) := by
  obtain ⟨locs, X, N, eh⟩ := S; subst hp
  obtain ⟨cl, A, sz, z⟩ := A
  obtain ⟨q1, q2⟩ := idx_nat (c := cl) hj (by rw [sz]; exact hi)
  exact kk.st fun t q => X.baloadBooleans (g := mkF m pc L (.int j :: .ref a :: r)) C.1 (by rw [eh]; exact A.1) (State.isArrayOf_alike C.2.1.alike A.2.1) A.2.2 q1 (by rw [q2, ← hv]; exact z i hi) rfl rfl (hb C.2.2.1 hd) t q
theorem g_daload (C : Cx p s m meth c Z own name cod maxL ret) (S : On p l e R s m args below meth c n0 T h k n) (hd : decode cod pc = .ok (.daload, 1)) (A : Ary Z h a .double N f) (hj : j.toInt = (i : Int)) (hi : i < N) (hv : f i = v) (hp : pc + 1 = pc') (kk : Gl p e below s R n0 Q T (mkF m pc' L (v :: r))) : Gl p e below s R n0 Q T (mkF m pc L (.int j :: .ref a :: r)) := by
  obtain ⟨locs, X, N, eh⟩ := S; subst hp
  obtain ⟨cl, A, sz, z⟩ := A
  obtain ⟨q1, q2⟩ := idx_nat (c := cl) hj (by rw [sz]; exact hi)
  exact kk.st fun t q => X.daload (g := mkF m pc L (.int j :: .ref a :: r)) C.1 (by rw [eh]; exact A.1) (State.isArrayOf_alike C.2.1.alike A.2.1) A.2.2 q1 (by rw [q2, ← hv]; exact z i hi) rfl rfl (hb C.2.2.1 hd) t q
theorem g_aaload (C : Cx p s m meth c Z own name cod maxL ret) (S : On p l e R s m args below meth c n0 T h k n) (hd : decode cod pc = .ok (.aaload, 1)) (A : Ary Z h a ty N f) (hty : ty.isReference = true) (hj : j.toInt = (i : Int)) (hi : i < N) (hv : f i = v) (hp : pc + 1 = pc') (kk : Gl p e below s R n0 Q T (mkF m pc' L (v :: r))) : Gl p e below s R n0 Q T (mkF m pc L (.int j :: .ref a :: r)) := by
  obtain ⟨locs, X, N, eh⟩ := S; subst hp
  obtain ⟨cl, A, sz, z⟩ := A
  obtain ⟨q1, q2⟩ := idx_nat (c := cl) hj (by rw [sz]; exact hi)
  exact kk.st fun t q => X.aaload (g := mkF m pc L (.int j :: .ref a :: r)) C.1 (by rw [eh]; exact A.1) (State.isArrayOf_alike C.2.1.alike A.2.1) hty A.2.2 q1 (by rw [q2, ← hv]; exact z i hi) rfl rfl (hb C.2.2.1 hd) t q
theorem g_arraylength (C : Cx p s m meth c Z own name cod maxL ret) (S : On p l e R s m args below meth c n0 T h k n) (hd : decode cod pc = .ok (.arraylength, 1)) (A : Ary Z h a ty N f) (hx : N.toInt32 = x) (hp : pc + 1 = pc') (kk : Gl p e below s R n0 Q T (mkF m pc' L (.int x :: r))) : Gl p e below s R n0 Q T (mkF m pc L (.ref a :: r)) := by
  obtain ⟨locs, X, _, eh⟩ := S; subst hp
  obtain ⟨cl, A, sz, z⟩ := A
  subst hx
  rw [← sz] at kk
  exact kk.st fun t q => X.arraylength (g := mkF m pc L (.ref a :: r)) C.1 (by rw [eh]; exact A.1) (State.isArrayOf_alike C.2.1.alike A.2.1) rfl rfl (hb C.2.2.1 hd) t q
theorem g_iastore (C : Cx p s m meth c Z own name cod maxL ret) (S : On p l e R s m args below meth c n0 T h k n) {y : Int32} (hd : decode cod pc = .ok (.iastore, 1)) (A : Ary Z h a .int N f) (hj : j.toInt = (i : Int)) (hi : i < N) (ga : n0 ≤ a) (hp : pc + 1 = pc') (kk : ∀ T' h', On p l e R s m args below meth c n0 T' h' k n → Wr h h' a i (.int y) → Ary Z h' a .int N (fun q => if q = i then .int y else f q) → Gl p e below s R n0 Q T' (mkF m pc' L r)) : Gl p e below s R n0 Q T (mkF m pc L (.int y :: .int j :: .ref a :: r)) := by
  obtain ⟨locs, X, N, eh⟩ := S; subst hp
  have A0 := A
  obtain ⟨cl, A, sz, z⟩ := A
  obtain ⟨q1, q2⟩ := idx_nat (c := cl) hj (by rw [sz]; exact hi)
  obtain ⟨T', h', X', eT, W, st⟩ := stI X C.1 C.2.1 eh A q1 (g := mkF m pc L (.int y :: .int j :: .ref a :: r)) rfl rfl (hb C.2.2.1 hd)
  have N' := Fr.snoc X' N ga
  rw [q2] at W
  exact (kk T' h' ⟨_, X', N', eT⟩ W (A0.same W)).st st
theorem g_lastore (C : Cx p s m meth c Z own name cod maxL ret) (S : On p l e R s m args below meth c n0 T h k n) {y : Int64} (hd : decode cod pc = .ok (.lastore, 1)) (A : Ary Z h a .long N f) (hj : j.toInt = (i : Int)) (hi : i < N) (ga : n0 ≤ a) (hp : pc + 1 = pc') (kk : ∀ T' h', On p l e R s m args below meth c n0 T' h' k n → Wr h h' a i (.long y) → Ary Z h' a .long N (fun q => if q = i then .long y else f q) → Gl p e below s R n0 Q T' (mkF m pc' L r)) : Gl p e below s R n0 Q T (mkF m pc L (.long y :: .int j :: .ref a :: r)) := by
  obtain ⟨locs, X, N, eh⟩ := S; subst hp
  have A0 := A
  obtain ⟨cl, A, sz, z⟩ := A
  obtain ⟨q1, q2⟩ := idx_nat (c := cl) hj (by rw [sz]; exact hi)
  obtain ⟨T', h', X', eT, W, st⟩ := stJ X C.1 C.2.1 eh A q1 (g := mkF m pc L (.long y :: .int j :: .ref a :: r)) rfl rfl (hb C.2.2.1 hd)
  have N' := Fr.snoc X' N ga
  rw [q2] at W
  exact (kk T' h' ⟨_, X', N', eT⟩ W (A0.same W)).st st
theorem g_castore (C : Cx p s m meth c Z own name cod maxL ret) (S : On p l e R s m args below meth c n0 T h k n) {y : Int32} (hd : decode cod pc = .ok (.castore, 1)) (A : Ary Z h a .char N f) (hj : j.toInt = (i : Int)) (hi : i < N) (ga : n0 ≤ a) (hp : pc + 1 = pc') (kk : ∀ T' h', On p l e R s m args below meth c n0 T' h' k n → Wr h h' a i (.int (nar .char y)) → Ary Z h' a .char N (fun q => if q = i then .int (nar .char y) else f q) → Gl p e below s R n0 Q T' (mkF m pc' L r)) : Gl p e below s R n0 Q T (mkF m pc L (.int y :: .int j :: .ref a :: r)) := by
  obtain ⟨locs, X, N, eh⟩ := S; subst hp
  have A0 := A
  obtain ⟨cl, A, sz, z⟩ := A
  obtain ⟨q1, q2⟩ := idx_nat (c := cl) hj (by rw [sz]; exact hi)
  obtain ⟨T', h', X', eT, W, st⟩ := stC X C.1 C.2.1 eh A q1 (g := mkF m pc L (.int y :: .int j :: .ref a :: r)) rfl rfl (hb C.2.2.1 hd)
  have N' := Fr.snoc X' N ga
  rw [q2] at W
  exact (kk T' h' ⟨_, X', N', eT⟩ W (A0.same W)).st st
theorem g_bastoreB (C : Cx p s m meth c Z own name cod maxL ret) (S : On p l e R s m args below meth c n0 T h k n) {y : Int32} (hd : decode cod pc = .ok (.bastore, 1)) (A : Ary Z h a .byte N f) (hj : j.toInt = (i : Int)) (hi : i < N) (ga : n0 ≤ a) (hp : pc + 1 = pc') (kk : ∀ T' h', On p l e R s m args below meth c n0 T' h' k n → Wr h h' a i (.int (nar .byte y)) → Ary Z h' a .byte N (fun q => if q = i then .int (nar .byte y) else f q) → Gl p e below s R n0 Q T' (mkF m pc' L r)) : Gl p e below s R n0 Q T (mkF m pc L (.int y :: .int j :: .ref a :: r)) := by
  obtain ⟨locs, X, N, eh⟩ := S; subst hp
  have A0 := A
  obtain ⟨cl, A, sz, z⟩ := A
  obtain ⟨q1, q2⟩ := idx_nat (c := cl) hj (by rw [sz]; exact hi)
  obtain ⟨T', h', X', eT, W, st⟩ := stB X C.1 C.2.1 eh A q1 (g := mkF m pc L (.int y :: .int j :: .ref a :: r)) rfl rfl (hb C.2.2.1 hd)
  have N' := Fr.snoc X' N ga
  rw [q2] at W
  exact (kk T' h' ⟨_, X', N', eT⟩ W (A0.same W)).st st
theorem g_bastoreZ (C : Cx p s m meth c Z own name cod maxL ret) (S : On p l e R s m args below meth c n0 T h k n) {y : Int32} (hd : decode cod pc = .ok (.bastore, 1)) (A : Ary Z h a .boolean N f) (hj : j.toInt = (i : Int)) (hi : i < N) (ga : n0 ≤ a) (hp : pc + 1 = pc') (kk : ∀ T' h', On p l e R s m args below meth c n0 T' h' k n → Wr h h' a i (.int (nar .boolean y)) → Ary Z h' a .boolean N (fun q => if q = i then .int (nar .boolean y) else f q) → Gl p e below s R n0 Q T' (mkF m pc' L r)) : Gl p e below s R n0 Q T (mkF m pc L (.int y :: .int j :: .ref a :: r)) := by
  obtain ⟨locs, X, N, eh⟩ := S; subst hp
  have A0 := A
  obtain ⟨cl, A, sz, z⟩ := A
  obtain ⟨q1, q2⟩ := idx_nat (c := cl) hj (by rw [sz]; exact hi)
  obtain ⟨T', h', X', eT, W, st⟩ := stZ X C.1 C.2.1 eh A q1 (g := mkF m pc L (.int y :: .int j :: .ref a :: r)) rfl rfl (hb C.2.2.1 hd)
  have N' := Fr.snoc X' N ga
  rw [q2] at W
  exact (kk T' h' ⟨_, X', N', eT⟩ W (A0.same W)).st st
theorem g_dastore (C : Cx p s m meth c Z own name cod maxL ret) (S : On p l e R s m args below meth c n0 T h k n) {y : UInt64} (hd : decode cod pc = .ok (.dastore, 1)) (A : Ary Z h a .double N f) (hj : j.toInt = (i : Int)) (hi : i < N) (ga : n0 ≤ a) (hp : pc + 1 = pc') (kk : ∀ T' h', On p l e R s m args below meth c n0 T' h' k n → Wr h h' a i (.double y) → Ary Z h' a .double N (fun q => if q = i then .double y else f q) → Gl p e below s R n0 Q T' (mkF m pc' L r)) : Gl p e below s R n0 Q T (mkF m pc L (.double y :: .int j :: .ref a :: r)) := by
  obtain ⟨locs, X, N, eh⟩ := S; subst hp
  have A0 := A
  obtain ⟨cl, A, sz, z⟩ := A
  obtain ⟨q1, q2⟩ := idx_nat (c := cl) hj (by rw [sz]; exact hi)
  obtain ⟨T', h', X', eT, W, st⟩ := stD X C.1 C.2.1 eh A q1 (g := mkF m pc L (.double y :: .int j :: .ref a :: r)) rfl rfl (hb C.2.2.1 hd)
  have N' := Fr.snoc X' N ga
  rw [q2] at W
  exact (kk T' h' ⟨_, X', N', eT⟩ W (A0.same W)).st st
theorem g_newarray (C : Cx p s m meth c Z own name cod maxL ret) (S : On p l e R s m args below meth c n0 T h k n) {aty : ArrayType} {cap : Nat} (hd : decode cod pc = .ok (.newarray aty, 2)) (w : (Jvm.Cond.arrayClass (newarray.typeOf aty)).before a0 Z = true) (hj : j.toInt = (N : Int)) (hcap : N ≤ cap) (hbig : cap * 8 ≤ 536870912) (hc : k + 1 ≤ R.cells) (hl : n + cap ≤ R.slots) (hp : pc + 2 = pc') (kk : ∀ T' h' a, On p l e R s m args below meth c n0 T' h' (k + 1) (n + cap) → a = h.size → Ext h h' → Ary Z h' a (newarray.typeOf aty) N (fun _ => defaultValue (newarray.typeOf aty)) → Gl p e below s R n0 Q T' (mkF m pc' L (.ref a :: r))) : Gl p e below s R n0 Q T (mkF m pc L (.int j :: r)) := by
  obtain ⟨locs, X, Nn, eh⟩ := S; subst hp
  have e1 : j.toNatClampNeg = N := by simp only [Int32.toNatClampNeg, hj]; omega
  have e2 : ¬ j < 0 := by rw [Int32.lt_iff_toInt_lt, hj]; have : (0 : Int32).toInt = 0 := rfl; omega
  obtain ⟨T', h', cA, X', eT, E, A, st⟩ := newP X C.1 C.2.1 w eh (g := mkF m pc L (.int j :: r)) rfl (hb C.2.2.1 hd) rfl e2 (cap := cap) (by rw [e1]; exact hcap) hbig hc hl
  refine (kk T' h' h.size ⟨_, X', Nn, eT⟩ rfl E ⟨_, A, by rw [sz_new]; exact e1, fun i hi => ?_⟩).st st
  simp [newA, e1, hi]
theorem ge_of {z : Nat} (e1 : a = z) (q : n0 ≤ z) : n0 ≤ a := e1 ▸ q
theorem ne_new (e1 : b = h.size) (q : a < h.size) : a ≠ b := fun e => by rw [e, e1] at q; exact Nat.lt_irrefl _ q
end OwnKit
theorem own_mag0 : Jvm.Free.Fl.Mag64 1056 FP.dconst0 := by unfold Jvm.Free.Fl.Mag64; decide +kernel
theorem own_mag1 : Jvm.Free.Fl.Mag64 1056 FP.dconst1 := by unfold Jvm.Free.Fl.Mag64; decide +kernel
theorem nn_of {K : Nat} {x : UInt64} (h : Jvm.Free.Fl.Mag64 K x) (hK : K ≤ 2047) : Jvm.Free.Fl.NoNaN64 x := (Jvm.Free.Fl.Mag64.fin h hK).noNaN
theorem own_nz {c : Int64} (h : (0 : Int64) < c) : c ≠ 0 := fun q => by rw [q] at h; exact absurd h (by decide)
theorem own_i2d {x : Int32} (h : x.toInt64 ≠ 0) : Big64 1023 (FP.i2d x) := by rw [i2d_w]; exact l2d_big h
theorem ds_0 : decode prog_1_method_18_code 0 = .ok (.dconst 0, 1) := by decide +kernel
theorem ds_1 : decode prog_1_method_18_code 1 = .ok (.dstore_n 2, 1) := by decide +kernel
theorem ds_2 : decode prog_1_method_18_code 2 = .ok (.iconst 0, 1) := by decide +kernel
theorem ds_3 : decode prog_1_method_18_code 3 = .ok (.istore 4, 2) := by decide +kernel
theorem ds_5 : decode prog_1_method_18_code 5 = .ok (.iconst 0, 1) := by decide +kernel
theorem ds_6 : decode prog_1_method_18_code 6 = .ok (.istore 5, 2) := by decide +kernel
theorem ds_8 : decode prog_1_method_18_code 8 = .ok (.iload 5, 2) := by decide +kernel
theorem ds_10 : decode prog_1_method_18_code 10 = .ok (.aload_n 0, 1) := by decide +kernel
theorem ds_11 : decode prog_1_method_18_code 11 = .ok (.arraylength, 1) := by decide +kernel
theorem ds_12 : decode prog_1_method_18_code 12 = .ok (.if_icmp .ge 34, 3) := by decide +kernel
theorem ds_15 : decode prog_1_method_18_code 15 = .ok (.aload_n 0, 1) := by decide +kernel
theorem ds_16 : decode prog_1_method_18_code 16 = .ok (.iload 5, 2) := by decide +kernel
theorem ds_18 : decode prog_1_method_18_code 18 = .ok (.laload, 1) := by decide +kernel
theorem ds_19 : decode prog_1_method_18_code 19 = .ok (.lconst 0, 1) := by decide +kernel
theorem ds_20 : decode prog_1_method_18_code 20 = .ok (.lcmp, 1) := by decide +kernel
theorem ds_21 : decode prog_1_method_18_code 21 = .ok (.ifCond .le 19, 3) := by decide +kernel
theorem ds_24 : decode prog_1_method_18_code 24 = .ok (.dload_n 2, 1) := by decide +kernel
theorem ds_25 : decode prog_1_method_18_code 25 = .ok (.aload_n 1, 1) := by decide +kernel
theorem ds_26 : decode prog_1_method_18_code 26 = .ok (.iload 5, 2) := by decide +kernel
theorem ds_28 : decode prog_1_method_18_code 28 = .ok (.daload, 1) := by decide +kernel
theorem ds_29 : decode prog_1_method_18_code 29 = .ok (.aload_n 0, 1) := by decide +kernel
theorem ds_30 : decode prog_1_method_18_code 30 = .ok (.iload 5, 2) := by decide +kernel
theorem ds_32 : decode prog_1_method_18_code 32 = .ok (.laload, 1) := by decide +kernel
theorem ds_33 : decode prog_1_method_18_code 33 = .ok (.l2d, 1) := by decide +kernel
theorem ds_34 : decode prog_1_method_18_code 34 = .ok (.ddiv, 1) := by decide +kernel
theorem ds_35 : decode prog_1_method_18_code 35 = .ok (.dadd, 1) := by decide +kernel
theorem ds_36 : decode prog_1_method_18_code 36 = .ok (.dstore_n 2, 1) := by decide +kernel
theorem ds_37 : decode prog_1_method_18_code 37 = .ok (.iinc 4 1, 3) := by decide +kernel
theorem ds_40 : decode prog_1_method_18_code 40 = .ok (.iinc 5 1, 3) := by decide +kernel
theorem ds_43 : decode prog_1_method_18_code 43 = .ok (.goto (-35), 3) := by decide +kernel
theorem ds_46 : decode prog_1_method_18_code 46 = .ok (.iload 4, 2) := by decide +kernel
theorem ds_48 : decode prog_1_method_18_code 48 = .ok (.ifCond .ne 7, 3) := by decide +kernel
theorem ds_55 : decode prog_1_method_18_code 55 = .ok (.dload_n 2, 1) := by decide +kernel
theorem ds_56 : decode prog_1_method_18_code 56 = .ok (.iload 4, 2) := by decide +kernel
theorem ds_58 : decode prog_1_method_18_code 58 = .ok (.i2d, 1) := by decide +kernel
theorem ds_59 : decode prog_1_method_18_code 59 = .ok (.ddiv, 1) := by decide +kernel
theorem ds_60 : decode prog_1_method_18_code 60 = .ok (.dstore 5, 2) := by decide +kernel
theorem ds_62 : decode prog_1_method_18_code 62 = .ok (.aload_n 0, 1) := by decide +kernel
theorem ds_63 : decode prog_1_method_18_code 63 = .ok (.arraylength, 1) := by decide +kernel
theorem ds_64 : decode prog_1_method_18_code 64 = .ok (.newarray .double, 2) := by decide +kernel
theorem ds_66 : decode prog_1_method_18_code 66 = .ok (.astore 7, 2) := by decide +kernel
theorem ds_68 : decode prog_1_method_18_code 68 = .ok (.iconst 0, 1) := by decide +kernel
theorem ds_69 : decode prog_1_method_18_code 69 = .ok (.istore 8, 2) := by decide +kernel
theorem ds_71 : decode prog_1_method_18_code 71 = .ok (.iload 8, 2) := by decide +kernel
theorem ds_73 : decode prog_1_method_18_code 73 = .ok (.aload 7, 2) := by decide +kernel
theorem ds_75 : decode prog_1_method_18_code 75 = .ok (.arraylength, 1) := by decide +kernel
theorem ds_76 : decode prog_1_method_18_code 76 = .ok (.if_icmp .ge 38, 3) := by decide +kernel
theorem ds_79 : decode prog_1_method_18_code 79 = .ok (.aload 7, 2) := by decide +kernel
theorem ds_81 : decode prog_1_method_18_code 81 = .ok (.iload 8, 2) := by decide +kernel
theorem ds_83 : decode prog_1_method_18_code 83 = .ok (.aload_n 0, 1) := by decide +kernel
theorem ds_84 : decode prog_1_method_18_code 84 = .ok (.iload 8, 2) := by decide +kernel
theorem ds_86 : decode prog_1_method_18_code 86 = .ok (.laload, 1) := by decide +kernel
theorem ds_87 : decode prog_1_method_18_code 87 = .ok (.lconst 0, 1) := by decide +kernel
theorem ds_88 : decode prog_1_method_18_code 88 = .ok (.lcmp, 1) := by decide +kernel
theorem ds_89 : decode prog_1_method_18_code 89 = .ok (.ifCond .le 16, 3) := by decide +kernel
theorem ds_92 : decode prog_1_method_18_code 92 = .ok (.aload_n 1, 1) := by decide +kernel
theorem ds_93 : decode prog_1_method_18_code 93 = .ok (.iload 8, 2) := by decide +kernel
theorem ds_95 : decode prog_1_method_18_code 95 = .ok (.daload, 1) := by decide +kernel
theorem ds_96 : decode prog_1_method_18_code 96 = .ok (.aload_n 0, 1) := by decide +kernel
theorem ds_97 : decode prog_1_method_18_code 97 = .ok (.iload 8, 2) := by decide +kernel
theorem ds_99 : decode prog_1_method_18_code 99 = .ok (.laload, 1) := by decide +kernel
theorem ds_100 : decode prog_1_method_18_code 100 = .ok (.l2d, 1) := by decide +kernel
theorem ds_101 : decode prog_1_method_18_code 101 = .ok (.ddiv, 1) := by decide +kernel
theorem ds_102 : decode prog_1_method_18_code 102 = .ok (.goto 5, 3) := by decide +kernel
theorem ds_107 : decode prog_1_method_18_code 107 = .ok (.dastore, 1) := by decide +kernel
theorem ds_108 : decode prog_1_method_18_code 108 = .ok (.iinc 8 1, 3) := by decide +kernel
theorem ds_111 : decode prog_1_method_18_code 111 = .ok (.goto (-40), 3) := by decide +kernel
theorem ds_114 : decode prog_1_method_18_code 114 = .ok (.aload 7, 2) := by decide +kernel
theorem ds_116 : decode prog_1_method_18_code 116 = .ok (.areturn, 1) := by decide +kernel
set_option maxRecDepth 65536 in
set_option maxHeartbeats 40000000 in
theorem c_st111 (l : Launch) (Z : State) (a0 : Array Value) (hw : ∀ d ∈ tables_1, d.before a0 Z = true) (a1 : Addr) (a2 : Addr) (h0 : Heap) (n0 : Nat) (c0 c1 c2 : Int64) (t0 t1 t2 : UInt64) (fc ft : Nat → Value) (m0 : Jvm.Free.Fl.Mag64 1056 t0) (m1 : Jvm.Free.Fl.Mag64 1056 t1) (m2 : Jvm.Free.Fl.Mag64 1056 t2) (hc0 : fc 0 = .long c0) (hc1 : fc 1 = .long c1) (hc2 : fc 2 = .long c2) (ht0 : ft 0 = .double t0) (ht1 : ft 1 = .double t1) (ht2 : ft 2 = .double t2) (s0 : (0 : Int64) < c0) (s1 : (0 : Int64) < c1) (s2 : (0 : Int64) < c2) (Zn : n0 ≤ h0.size) (A_a1 : Ary Z h0 a1 .long 3 fc) (A_a2 : Ary Z h0 a2 .double 3 ft) :
    Con l Z (⟨"com/example/tuned_conveyor/tunedconveyor/Allocation", "serviceTimes", "([J[D)[D"⟩ : MethodName) prog_1_method_18_code 9 (some (.array .double)) ({ frames := 0, cells := 1, slots := 3, locals := 0 } : Room) #[(.ref a1), (.ref a2)] h0 n0 (fun v h => ∃ (b : Addr) (f : Nat → Value), v = some (.ref b) ∧ n0 ≤ b ∧ h0.size ≤ b ∧ Keep h0 h [] ∧ Ary Z h b .double 3 f ∧ f 0 = .double (FP.ddiv t0 (FP.l2d c0)) ∧ f 1 = .double (FP.ddiv t1 (FP.l2d c1)) ∧ f 2 = .double (FP.ddiv t2 (FP.l2d c2))) := by
  refine Con.of (plainFor_of_name (by first | (simp [plainName, overriddenIn]; done) | decide +kernel)) (L0 := #[.val (.ref a1), .val (.ref a2), .unset, .unset, .unset, .unset, .unset, .unset, .unset]) (fun m => by first | (simp [entryFrame, mkF, argsToLocals, Value.category]; done) | rfl) ?_
  intro p e s m below meth c T C S
  have Kp := Keep.refl h0 []
  refine g_dconst0 C S ds_0 (pc' := 1) rfl ?_
  refine g_dstoreN C S ds_1 (pc' := 2) rfl (L' := #[.val (.ref a1), .val (.ref a2), .val (.double FP.dconst0), .second, .unset, .unset, .unset, .unset, .unset]) rfl ?_
  refine g_iconst C S (0 : Int32) ds_2 (pc' := 3) rfl rfl ?_
  refine g_istore C S ds_3 (pc' := 5) rfl (L' := #[.val (.ref a1), .val (.ref a2), .val (.double FP.dconst0), .second, .val (.int (0 : Int32)), .unset, .unset, .unset, .unset]) rfl ?_
  refine g_iconst C S (0 : Int32) ds_5 (pc' := 6) rfl rfl ?_
  refine g_istore C S ds_6 (pc' := 8) rfl (L' := #[.val (.ref a1), .val (.ref a2), .val (.double FP.dconst0), .second, .val (.int (0 : Int32)), .val (.int (0 : Int32)), .unset, .unset, .unset]) rfl ?_
  refine g_iload C S ds_8 (pc' := 10) rfl rfl ?_
  refine g_aloadN C S ds_10 (pc' := 11) rfl rfl rfl ?_
  refine g_arraylength C S (x := (3 : Int32)) ds_11 A_a1 (by decide) (pc' := 12) rfl ?_
  refine g_icmp_ge C S ds_12 (pc' := 46) (pf := 15) (by decide) (by decide) rfl (fun hc12 => absurd (by decide) hc12) (fun hc12 => ?_)
  refine g_aloadN C S ds_15 (pc' := 16) rfl rfl rfl ?_
  refine g_iload C S ds_16 (pc' := 18) rfl rfl ?_
  refine g_laload C S (i := 0) (v := (.long c0)) ds_18 A_a1 (by decide) (by decide) hc0 (pc' := 19) rfl ?_
  refine g_lconst C S (0 : Int64) ds_19 (pc' := 20) rfl rfl ?_
  refine g_lcmp C S ds_20 (pc' := 21) rfl ?_
  refine g_lif_le C S ds_21 (pc' := 40) (pf := 24) (by decide) (by decide) rfl (fun hc21 => absurd s0 hc21) (fun hc21 => ?_)
  refine g_dloadN C S ds_24 (pc' := 25) rfl rfl ?_
  refine g_aloadN C S ds_25 (pc' := 26) rfl rfl rfl ?_
  refine g_iload C S ds_26 (pc' := 28) rfl rfl ?_
  refine g_daload C S (i := 0) (v := (.double t0)) ds_28 A_a2 (by decide) (by decide) ht0 (pc' := 29) rfl ?_
  refine g_aloadN C S ds_29 (pc' := 30) rfl rfl rfl ?_
  refine g_iload C S ds_30 (pc' := 32) rfl rfl ?_
  refine g_laload C S (i := 0) (v := (.long c0)) ds_32 A_a1 (by decide) (by decide) hc0 (pc' := 33) rfl ?_
  refine g_l2d C S ds_33 (pc' := 34) rfl ?_
  refine g_ddiv C S ds_34 (pc' := 35) rfl (nn_of (ddiv_mag (K := 1056) (L := 1023) m0 (l2d_big (own_nz s0)) (by decide) (by decide)) (by decide)) ?_
  refine g_dadd C S ds_35 (pc' := 36) rfl (nn_of (Jvm.Free.Fl.dadd_mag (K := 1057) (Jvm.Free.Fl.Mag64.mono own_mag0 (by decide)) (Jvm.Free.Fl.Mag64.mono (ddiv_mag (K := 1056) (L := 1023) m0 (l2d_big (own_nz s0)) (by decide) (by decide)) (by decide)) (by decide)) (by decide)) ?_
  refine g_dstoreN C S ds_36 (pc' := 37) rfl (L' := #[.val (.ref a1), .val (.ref a2), .val (.double (FP.dadd FP.dconst0 (FP.ddiv t0 (FP.l2d c0)))), .second, .val (.int (0 : Int32)), .val (.int (0 : Int32)), .unset, .unset, .unset]) rfl ?_
  refine g_iincL C S (1 : Int32) (1 : Int32) ds_37 (pc' := 40) rfl rfl (by decide) rfl (L' := #[.val (.ref a1), .val (.ref a2), .val (.double (FP.dadd FP.dconst0 (FP.ddiv t0 (FP.l2d c0)))), .second, .val (.int (1 : Int32)), .val (.int (0 : Int32)), .unset, .unset, .unset]) rfl ?_
  refine g_iincL C S (1 : Int32) (1 : Int32) ds_40 (pc' := 43) rfl rfl (by decide) rfl (L' := #[.val (.ref a1), .val (.ref a2), .val (.double (FP.dadd FP.dconst0 (FP.ddiv t0 (FP.l2d c0)))), .second, .val (.int (1 : Int32)), .val (.int (1 : Int32)), .unset, .unset, .unset]) rfl ?_
  refine g_goto C S ds_43 (pc' := 8) (by decide) (by decide) ?_
  refine g_iload C S ds_8 (pc' := 10) rfl rfl ?_
  refine g_aloadN C S ds_10 (pc' := 11) rfl rfl rfl ?_
  refine g_arraylength C S (x := (3 : Int32)) ds_11 A_a1 (by decide) (pc' := 12) rfl ?_
  refine g_icmp_ge C S ds_12 (pc' := 46) (pf := 15) (by decide) (by decide) rfl (fun hc12 => absurd (by decide) hc12) (fun hc12 => ?_)
  refine g_aloadN C S ds_15 (pc' := 16) rfl rfl rfl ?_
  refine g_iload C S ds_16 (pc' := 18) rfl rfl ?_
  refine g_laload C S (i := 1) (v := (.long c1)) ds_18 A_a1 (by decide) (by decide) hc1 (pc' := 19) rfl ?_
  refine g_lconst C S (0 : Int64) ds_19 (pc' := 20) rfl rfl ?_
  refine g_lcmp C S ds_20 (pc' := 21) rfl ?_
  refine g_lif_le C S ds_21 (pc' := 40) (pf := 24) (by decide) (by decide) rfl (fun hc21 => absurd s1 hc21) (fun hc21 => ?_)
  refine g_dloadN C S ds_24 (pc' := 25) rfl rfl ?_
  refine g_aloadN C S ds_25 (pc' := 26) rfl rfl rfl ?_
  refine g_iload C S ds_26 (pc' := 28) rfl rfl ?_
  refine g_daload C S (i := 1) (v := (.double t1)) ds_28 A_a2 (by decide) (by decide) ht1 (pc' := 29) rfl ?_
  refine g_aloadN C S ds_29 (pc' := 30) rfl rfl rfl ?_
  refine g_iload C S ds_30 (pc' := 32) rfl rfl ?_
  refine g_laload C S (i := 1) (v := (.long c1)) ds_32 A_a1 (by decide) (by decide) hc1 (pc' := 33) rfl ?_
  refine g_l2d C S ds_33 (pc' := 34) rfl ?_
  refine g_ddiv C S ds_34 (pc' := 35) rfl (nn_of (ddiv_mag (K := 1056) (L := 1023) m1 (l2d_big (own_nz s1)) (by decide) (by decide)) (by decide)) ?_
  refine g_dadd C S ds_35 (pc' := 36) rfl (nn_of (Jvm.Free.Fl.dadd_mag (K := 1059) (Jvm.Free.Fl.Mag64.mono (Jvm.Free.Fl.dadd_mag (K := 1057) (Jvm.Free.Fl.Mag64.mono own_mag0 (by decide)) (Jvm.Free.Fl.Mag64.mono (ddiv_mag (K := 1056) (L := 1023) m0 (l2d_big (own_nz s0)) (by decide) (by decide)) (by decide)) (by decide)) (by decide)) (Jvm.Free.Fl.Mag64.mono (ddiv_mag (K := 1056) (L := 1023) m1 (l2d_big (own_nz s1)) (by decide) (by decide)) (by decide)) (by decide)) (by decide)) ?_
  refine g_dstoreN C S ds_36 (pc' := 37) rfl (L' := #[.val (.ref a1), .val (.ref a2), .val (.double (FP.dadd (FP.dadd FP.dconst0 (FP.ddiv t0 (FP.l2d c0))) (FP.ddiv t1 (FP.l2d c1)))), .second, .val (.int (1 : Int32)), .val (.int (1 : Int32)), .unset, .unset, .unset]) rfl ?_
  refine g_iincL C S (1 : Int32) (2 : Int32) ds_37 (pc' := 40) rfl rfl (by decide) rfl (L' := #[.val (.ref a1), .val (.ref a2), .val (.double (FP.dadd (FP.dadd FP.dconst0 (FP.ddiv t0 (FP.l2d c0))) (FP.ddiv t1 (FP.l2d c1)))), .second, .val (.int (2 : Int32)), .val (.int (1 : Int32)), .unset, .unset, .unset]) rfl ?_
  refine g_iincL C S (1 : Int32) (2 : Int32) ds_40 (pc' := 43) rfl rfl (by decide) rfl (L' := #[.val (.ref a1), .val (.ref a2), .val (.double (FP.dadd (FP.dadd FP.dconst0 (FP.ddiv t0 (FP.l2d c0))) (FP.ddiv t1 (FP.l2d c1)))), .second, .val (.int (2 : Int32)), .val (.int (2 : Int32)), .unset, .unset, .unset]) rfl ?_
  refine g_goto C S ds_43 (pc' := 8) (by decide) (by decide) ?_
  refine g_iload C S ds_8 (pc' := 10) rfl rfl ?_
  refine g_aloadN C S ds_10 (pc' := 11) rfl rfl rfl ?_
  refine g_arraylength C S (x := (3 : Int32)) ds_11 A_a1 (by decide) (pc' := 12) rfl ?_
  refine g_icmp_ge C S ds_12 (pc' := 46) (pf := 15) (by decide) (by decide) rfl (fun hc12 => absurd (by decide) hc12) (fun hc12 => ?_)
  refine g_aloadN C S ds_15 (pc' := 16) rfl rfl rfl ?_
  refine g_iload C S ds_16 (pc' := 18) rfl rfl ?_
  refine g_laload C S (i := 2) (v := (.long c2)) ds_18 A_a1 (by decide) (by decide) hc2 (pc' := 19) rfl ?_
  refine g_lconst C S (0 : Int64) ds_19 (pc' := 20) rfl rfl ?_
  refine g_lcmp C S ds_20 (pc' := 21) rfl ?_
  refine g_lif_le C S ds_21 (pc' := 40) (pf := 24) (by decide) (by decide) rfl (fun hc21 => absurd s2 hc21) (fun hc21 => ?_)
  refine g_dloadN C S ds_24 (pc' := 25) rfl rfl ?_
  refine g_aloadN C S ds_25 (pc' := 26) rfl rfl rfl ?_
  refine g_iload C S ds_26 (pc' := 28) rfl rfl ?_
  refine g_daload C S (i := 2) (v := (.double t2)) ds_28 A_a2 (by decide) (by decide) ht2 (pc' := 29) rfl ?_
  refine g_aloadN C S ds_29 (pc' := 30) rfl rfl rfl ?_
  refine g_iload C S ds_30 (pc' := 32) rfl rfl ?_
  refine g_laload C S (i := 2) (v := (.long c2)) ds_32 A_a1 (by decide) (by decide) hc2 (pc' := 33) rfl ?_
  refine g_l2d C S ds_33 (pc' := 34) rfl ?_
  refine g_ddiv C S ds_34 (pc' := 35) rfl (nn_of (ddiv_mag (K := 1056) (L := 1023) m2 (l2d_big (own_nz s2)) (by decide) (by decide)) (by decide)) ?_
  refine g_dadd C S ds_35 (pc' := 36) rfl (nn_of (Jvm.Free.Fl.dadd_mag (K := 1061) (Jvm.Free.Fl.Mag64.mono (Jvm.Free.Fl.dadd_mag (K := 1059) (Jvm.Free.Fl.Mag64.mono (Jvm.Free.Fl.dadd_mag (K := 1057) (Jvm.Free.Fl.Mag64.mono own_mag0 (by decide)) (Jvm.Free.Fl.Mag64.mono (ddiv_mag (K := 1056) (L := 1023) m0 (l2d_big (own_nz s0)) (by decide) (by decide)) (by decide)) (by decide)) (by decide)) (Jvm.Free.Fl.Mag64.mono (ddiv_mag (K := 1056) (L := 1023) m1 (l2d_big (own_nz s1)) (by decide) (by decide)) (by decide)) (by decide)) (by decide)) (Jvm.Free.Fl.Mag64.mono (ddiv_mag (K := 1056) (L := 1023) m2 (l2d_big (own_nz s2)) (by decide) (by decide)) (by decide)) (by decide)) (by decide)) ?_
  refine g_dstoreN C S ds_36 (pc' := 37) rfl (L' := #[.val (.ref a1), .val (.ref a2), .val (.double (FP.dadd (FP.dadd (FP.dadd FP.dconst0 (FP.ddiv t0 (FP.l2d c0))) (FP.ddiv t1 (FP.l2d c1))) (FP.ddiv t2 (FP.l2d c2)))), .second, .val (.int (2 : Int32)), .val (.int (2 : Int32)), .unset, .unset, .unset]) rfl ?_
  refine g_iincL C S (1 : Int32) (3 : Int32) ds_37 (pc' := 40) rfl rfl (by decide) rfl (L' := #[.val (.ref a1), .val (.ref a2), .val (.double (FP.dadd (FP.dadd (FP.dadd FP.dconst0 (FP.ddiv t0 (FP.l2d c0))) (FP.ddiv t1 (FP.l2d c1))) (FP.ddiv t2 (FP.l2d c2)))), .second, .val (.int (3 : Int32)), .val (.int (2 : Int32)), .unset, .unset, .unset]) rfl ?_
  refine g_iincL C S (1 : Int32) (3 : Int32) ds_40 (pc' := 43) rfl rfl (by decide) rfl (L' := #[.val (.ref a1), .val (.ref a2), .val (.double (FP.dadd (FP.dadd (FP.dadd FP.dconst0 (FP.ddiv t0 (FP.l2d c0))) (FP.ddiv t1 (FP.l2d c1))) (FP.ddiv t2 (FP.l2d c2)))), .second, .val (.int (3 : Int32)), .val (.int (3 : Int32)), .unset, .unset, .unset]) rfl ?_
  refine g_goto C S ds_43 (pc' := 8) (by decide) (by decide) ?_
  refine g_iload C S ds_8 (pc' := 10) rfl rfl ?_
  refine g_aloadN C S ds_10 (pc' := 11) rfl rfl rfl ?_
  refine g_arraylength C S (x := (3 : Int32)) ds_11 A_a1 (by decide) (pc' := 12) rfl ?_
  refine g_icmp_ge C S ds_12 (pc' := 46) (pf := 15) (by decide) (by decide) rfl (fun hc12 => ?_) (fun hc12 => absurd hc12 (by decide))
  refine g_iload C S ds_46 (pc' := 48) rfl rfl ?_
  refine g_if_ne C S ds_48 (pc' := 55) (pf := 51) (by decide) (by decide) rfl (fun hc48 => ?_) (fun hc48 => absurd hc48 (by decide))
  refine g_dloadN C S ds_55 (pc' := 56) rfl rfl ?_
  refine g_iload C S ds_56 (pc' := 58) rfl rfl ?_
  refine g_i2d C S ds_58 (pc' := 59) rfl ?_
  refine g_ddiv C S ds_59 (pc' := 60) rfl (nn_of (ddiv_mag (K := 1063) (L := 1023) (Jvm.Free.Fl.dadd_mag (K := 1061) (Jvm.Free.Fl.Mag64.mono (Jvm.Free.Fl.dadd_mag (K := 1059) (Jvm.Free.Fl.Mag64.mono (Jvm.Free.Fl.dadd_mag (K := 1057) (Jvm.Free.Fl.Mag64.mono own_mag0 (by decide)) (Jvm.Free.Fl.Mag64.mono (ddiv_mag (K := 1056) (L := 1023) m0 (l2d_big (own_nz s0)) (by decide) (by decide)) (by decide)) (by decide)) (by decide)) (Jvm.Free.Fl.Mag64.mono (ddiv_mag (K := 1056) (L := 1023) m1 (l2d_big (own_nz s1)) (by decide) (by decide)) (by decide)) (by decide)) (by decide)) (Jvm.Free.Fl.Mag64.mono (ddiv_mag (K := 1056) (L := 1023) m2 (l2d_big (own_nz s2)) (by decide) (by decide)) (by decide)) (by decide)) (own_i2d (by decide)) (by decide) (by decide)) (by decide)) ?_
  refine g_dstore C S ds_60 (pc' := 62) rfl (L' := #[.val (.ref a1), .val (.ref a2), .val (.double (FP.dadd (FP.dadd (FP.dadd FP.dconst0 (FP.ddiv t0 (FP.l2d c0))) (FP.ddiv t1 (FP.l2d c1))) (FP.ddiv t2 (FP.l2d c2)))), .second, .val (.int (3 : Int32)), .val (.double (FP.ddiv (FP.dadd (FP.dadd (FP.dadd FP.dconst0 (FP.ddiv t0 (FP.l2d c0))) (FP.ddiv t1 (FP.l2d c1))) (FP.ddiv t2 (FP.l2d c2))) (FP.i2d (3 : Int32)))), .second, .unset, .unset]) rfl ?_
  refine g_aloadN C S ds_62 (pc' := 63) rfl rfl rfl ?_
  refine g_arraylength C S (x := (3 : Int32)) ds_63 A_a1 (by decide) (pc' := 64) rfl ?_
  refine g_newarray C S (N := 3) (cap := 3) ds_64 (hw _ (List.mem_of_getElem? (i := 4) rfl)) (by decide) (by decide) (by decide) (by decide) (by decide) (pc' := 66) rfl (fun T21 h21 a21 S g21 E21 A_a21 => ?_)
  have ne_a1_a21 : a1 ≠ a21 := ne_new g21 A_a1.lt
  have ne_a2_a21 : a2 ≠ a21 := ne_new g21 A_a2.lt
  have sz_a21 : h0.size ≤ a21 := ge_of g21 Kp.1
  have ge_a21 : n0 ≤ a21 := ge_of g21 Zn
  have Kp := Kp.ext E21
  have A_a1 := A_a1.ext E21
  have A_a2 := A_a2.ext E21
  have Zn := Nat.le_trans Zn E21.1
  have A_a21 : Ary Z h21 a21 .double 3 (fun _ => (.double 0)) := A_a21
  refine g_astore C S ds_66 (pc' := 68) rfl rfl (L' := #[.val (.ref a1), .val (.ref a2), .val (.double (FP.dadd (FP.dadd (FP.dadd FP.dconst0 (FP.ddiv t0 (FP.l2d c0))) (FP.ddiv t1 (FP.l2d c1))) (FP.ddiv t2 (FP.l2d c2)))), .second, .val (.int (3 : Int32)), .val (.double (FP.ddiv (FP.dadd (FP.dadd (FP.dadd FP.dconst0 (FP.ddiv t0 (FP.l2d c0))) (FP.ddiv t1 (FP.l2d c1))) (FP.ddiv t2 (FP.l2d c2))) (FP.i2d (3 : Int32)))), .second, .val (.ref a21), .unset]) rfl ?_
  refine g_iconst C S (0 : Int32) ds_68 (pc' := 69) rfl rfl ?_
  refine g_istore C S ds_69 (pc' := 71) rfl (L' := #[.val (.ref a1), .val (.ref a2), .val (.double (FP.dadd (FP.dadd (FP.dadd FP.dconst0 (FP.ddiv t0 (FP.l2d c0))) (FP.ddiv t1 (FP.l2d c1))) (FP.ddiv t2 (FP.l2d c2)))), .second, .val (.int (3 : Int32)), .val (.double (FP.ddiv (FP.dadd (FP.dadd (FP.dadd FP.dconst0 (FP.ddiv t0 (FP.l2d c0))) (FP.ddiv t1 (FP.l2d c1))) (FP.ddiv t2 (FP.l2d c2))) (FP.i2d (3 : Int32)))), .second, .val (.ref a21), .val (.int (0 : Int32))]) rfl ?_
  refine g_iload C S ds_71 (pc' := 73) rfl rfl ?_
  refine g_aload C S ds_73 (pc' := 75) rfl rfl rfl ?_
  refine g_arraylength C S (x := (3 : Int32)) ds_75 A_a21 (by decide) (pc' := 76) rfl ?_
  refine g_icmp_ge C S ds_76 (pc' := 114) (pf := 79) (by decide) (by decide) rfl (fun hc76 => absurd (by decide) hc76) (fun hc76 => ?_)
  refine g_aload C S ds_79 (pc' := 81) rfl rfl rfl ?_
  refine g_iload C S ds_81 (pc' := 83) rfl rfl ?_
  refine g_aloadN C S ds_83 (pc' := 84) rfl rfl rfl ?_
  refine g_iload C S ds_84 (pc' := 86) rfl rfl ?_
  refine g_laload C S (i := 0) (v := (.long c0)) ds_86 A_a1 (by decide) (by decide) hc0 (pc' := 87) rfl ?_
  refine g_lconst C S (0 : Int64) ds_87 (pc' := 88) rfl rfl ?_
  refine g_lcmp C S ds_88 (pc' := 89) rfl ?_
  refine g_lif_le C S ds_89 (pc' := 105) (pf := 92) (by decide) (by decide) rfl (fun hc89 => absurd s0 hc89) (fun hc89 => ?_)
  refine g_aloadN C S ds_92 (pc' := 93) rfl rfl rfl ?_
  refine g_iload C S ds_93 (pc' := 95) rfl rfl ?_
  refine g_daload C S (i := 0) (v := (.double t0)) ds_95 A_a2 (by decide) (by decide) ht0 (pc' := 96) rfl ?_
  refine g_aloadN C S ds_96 (pc' := 97) rfl rfl rfl ?_
  refine g_iload C S ds_97 (pc' := 99) rfl rfl ?_
  refine g_laload C S (i := 0) (v := (.long c0)) ds_99 A_a1 (by decide) (by decide) hc0 (pc' := 100) rfl ?_
  refine g_l2d C S ds_100 (pc' := 101) rfl ?_
  refine g_ddiv C S ds_101 (pc' := 102) rfl (nn_of (ddiv_mag (K := 1056) (L := 1023) m0 (l2d_big (own_nz s0)) (by decide) (by decide)) (by decide)) ?_
  refine g_goto C S ds_102 (pc' := 107) (by decide) (by decide) ?_
  refine g_dastore C S (i := 0) ds_107 A_a21 (by decide) (by decide) ge_a21 (pc' := 108) rfl (fun T22 h22 S W22 B22 => ?_)
  have A_a1 := A_a1.other W22 ne_a1_a21
  have A_a2 := A_a2.other W22 ne_a2_a21
  have Zn := Nat.le_trans Zn (Nat.le_of_eq W22.size.symm)
  have A_a21 := B22
  have Kp := Kp.wr W22 (Or.inr sz_a21)
  refine g_iincL C S (1 : Int32) (1 : Int32) ds_108 (pc' := 111) rfl rfl (by decide) rfl (L' := #[.val (.ref a1), .val (.ref a2), .val (.double (FP.dadd (FP.dadd (FP.dadd FP.dconst0 (FP.ddiv t0 (FP.l2d c0))) (FP.ddiv t1 (FP.l2d c1))) (FP.ddiv t2 (FP.l2d c2)))), .second, .val (.int (3 : Int32)), .val (.double (FP.ddiv (FP.dadd (FP.dadd (FP.dadd FP.dconst0 (FP.ddiv t0 (FP.l2d c0))) (FP.ddiv t1 (FP.l2d c1))) (FP.ddiv t2 (FP.l2d c2))) (FP.i2d (3 : Int32)))), .second, .val (.ref a21), .val (.int (1 : Int32))]) rfl ?_
  refine g_goto C S ds_111 (pc' := 71) (by decide) (by decide) ?_
  refine g_iload C S ds_71 (pc' := 73) rfl rfl ?_
  refine g_aload C S ds_73 (pc' := 75) rfl rfl rfl ?_
  refine g_arraylength C S (x := (3 : Int32)) ds_75 A_a21 (by decide) (pc' := 76) rfl ?_
  refine g_icmp_ge C S ds_76 (pc' := 114) (pf := 79) (by decide) (by decide) rfl (fun hc76 => absurd (by decide) hc76) (fun hc76 => ?_)
  refine g_aload C S ds_79 (pc' := 81) rfl rfl rfl ?_
  refine g_iload C S ds_81 (pc' := 83) rfl rfl ?_
  refine g_aloadN C S ds_83 (pc' := 84) rfl rfl rfl ?_
  refine g_iload C S ds_84 (pc' := 86) rfl rfl ?_
  refine g_laload C S (i := 1) (v := (.long c1)) ds_86 A_a1 (by decide) (by decide) hc1 (pc' := 87) rfl ?_
  refine g_lconst C S (0 : Int64) ds_87 (pc' := 88) rfl rfl ?_
  refine g_lcmp C S ds_88 (pc' := 89) rfl ?_
  refine g_lif_le C S ds_89 (pc' := 105) (pf := 92) (by decide) (by decide) rfl (fun hc89 => absurd s1 hc89) (fun hc89 => ?_)
  refine g_aloadN C S ds_92 (pc' := 93) rfl rfl rfl ?_
  refine g_iload C S ds_93 (pc' := 95) rfl rfl ?_
  refine g_daload C S (i := 1) (v := (.double t1)) ds_95 A_a2 (by decide) (by decide) ht1 (pc' := 96) rfl ?_
  refine g_aloadN C S ds_96 (pc' := 97) rfl rfl rfl ?_
  refine g_iload C S ds_97 (pc' := 99) rfl rfl ?_
  refine g_laload C S (i := 1) (v := (.long c1)) ds_99 A_a1 (by decide) (by decide) hc1 (pc' := 100) rfl ?_
  refine g_l2d C S ds_100 (pc' := 101) rfl ?_
  refine g_ddiv C S ds_101 (pc' := 102) rfl (nn_of (ddiv_mag (K := 1056) (L := 1023) m1 (l2d_big (own_nz s1)) (by decide) (by decide)) (by decide)) ?_
  refine g_goto C S ds_102 (pc' := 107) (by decide) (by decide) ?_
  refine g_dastore C S (i := 1) ds_107 A_a21 (by decide) (by decide) ge_a21 (pc' := 108) rfl (fun T23 h23 S W23 B23 => ?_)
  have A_a1 := A_a1.other W23 ne_a1_a21
  have A_a2 := A_a2.other W23 ne_a2_a21
  have Zn := Nat.le_trans Zn (Nat.le_of_eq W23.size.symm)
  have A_a21 := B23
  have Kp := Kp.wr W23 (Or.inr sz_a21)
  refine g_iincL C S (1 : Int32) (2 : Int32) ds_108 (pc' := 111) rfl rfl (by decide) rfl (L' := #[.val (.ref a1), .val (.ref a2), .val (.double (FP.dadd (FP.dadd (FP.dadd FP.dconst0 (FP.ddiv t0 (FP.l2d c0))) (FP.ddiv t1 (FP.l2d c1))) (FP.ddiv t2 (FP.l2d c2)))), .second, .val (.int (3 : Int32)), .val (.double (FP.ddiv (FP.dadd (FP.dadd (FP.dadd FP.dconst0 (FP.ddiv t0 (FP.l2d c0))) (FP.ddiv t1 (FP.l2d c1))) (FP.ddiv t2 (FP.l2d c2))) (FP.i2d (3 : Int32)))), .second, .val (.ref a21), .val (.int (2 : Int32))]) rfl ?_
  refine g_goto C S ds_111 (pc' := 71) (by decide) (by decide) ?_
  refine g_iload C S ds_71 (pc' := 73) rfl rfl ?_
  refine g_aload C S ds_73 (pc' := 75) rfl rfl rfl ?_
  refine g_arraylength C S (x := (3 : Int32)) ds_75 A_a21 (by decide) (pc' := 76) rfl ?_
  refine g_icmp_ge C S ds_76 (pc' := 114) (pf := 79) (by decide) (by decide) rfl (fun hc76 => absurd (by decide) hc76) (fun hc76 => ?_)
  refine g_aload C S ds_79 (pc' := 81) rfl rfl rfl ?_
  refine g_iload C S ds_81 (pc' := 83) rfl rfl ?_
  refine g_aloadN C S ds_83 (pc' := 84) rfl rfl rfl ?_
  refine g_iload C S ds_84 (pc' := 86) rfl rfl ?_
  refine g_laload C S (i := 2) (v := (.long c2)) ds_86 A_a1 (by decide) (by decide) hc2 (pc' := 87) rfl ?_
  refine g_lconst C S (0 : Int64) ds_87 (pc' := 88) rfl rfl ?_
  refine g_lcmp C S ds_88 (pc' := 89) rfl ?_
  refine g_lif_le C S ds_89 (pc' := 105) (pf := 92) (by decide) (by decide) rfl (fun hc89 => absurd s2 hc89) (fun hc89 => ?_)
  refine g_aloadN C S ds_92 (pc' := 93) rfl rfl rfl ?_
  refine g_iload C S ds_93 (pc' := 95) rfl rfl ?_
  refine g_daload C S (i := 2) (v := (.double t2)) ds_95 A_a2 (by decide) (by decide) ht2 (pc' := 96) rfl ?_
  refine g_aloadN C S ds_96 (pc' := 97) rfl rfl rfl ?_
  refine g_iload C S ds_97 (pc' := 99) rfl rfl ?_
  refine g_laload C S (i := 2) (v := (.long c2)) ds_99 A_a1 (by decide) (by decide) hc2 (pc' := 100) rfl ?_
  refine g_l2d C S ds_100 (pc' := 101) rfl ?_
  refine g_ddiv C S ds_101 (pc' := 102) rfl (nn_of (ddiv_mag (K := 1056) (L := 1023) m2 (l2d_big (own_nz s2)) (by decide) (by decide)) (by decide)) ?_
  refine g_goto C S ds_102 (pc' := 107) (by decide) (by decide) ?_
  refine g_dastore C S (i := 2) ds_107 A_a21 (by decide) (by decide) ge_a21 (pc' := 108) rfl (fun T24 h24 S W24 B24 => ?_)
  have A_a1 := A_a1.other W24 ne_a1_a21
  have A_a2 := A_a2.other W24 ne_a2_a21
  have Zn := Nat.le_trans Zn (Nat.le_of_eq W24.size.symm)
  have A_a21 := B24
  have Kp := Kp.wr W24 (Or.inr sz_a21)
  refine g_iincL C S (1 : Int32) (3 : Int32) ds_108 (pc' := 111) rfl rfl (by decide) rfl (L' := #[.val (.ref a1), .val (.ref a2), .val (.double (FP.dadd (FP.dadd (FP.dadd FP.dconst0 (FP.ddiv t0 (FP.l2d c0))) (FP.ddiv t1 (FP.l2d c1))) (FP.ddiv t2 (FP.l2d c2)))), .second, .val (.int (3 : Int32)), .val (.double (FP.ddiv (FP.dadd (FP.dadd (FP.dadd FP.dconst0 (FP.ddiv t0 (FP.l2d c0))) (FP.ddiv t1 (FP.l2d c1))) (FP.ddiv t2 (FP.l2d c2))) (FP.i2d (3 : Int32)))), .second, .val (.ref a21), .val (.int (3 : Int32))]) rfl ?_
  refine g_goto C S ds_111 (pc' := 71) (by decide) (by decide) ?_
  refine g_iload C S ds_71 (pc' := 73) rfl rfl ?_
  refine g_aload C S ds_73 (pc' := 75) rfl rfl rfl ?_
  refine g_arraylength C S (x := (3 : Int32)) ds_75 A_a21 (by decide) (pc' := 76) rfl ?_
  refine g_icmp_ge C S ds_76 (pc' := 114) (pf := 79) (by decide) (by decide) rfl (fun hc76 => ?_) (fun hc76 => absurd hc76 (by decide))
  refine g_aload C S ds_114 (pc' := 116) rfl rfl rfl ?_
  exact g_retA C S ds_116 rfl rfl rfl (by decide) (by decide) (⟨a21, _, rfl, ge_a21, sz_a21, Kp, A_a21, rfl, rfl, rfl⟩)
theorem pd_0 : parseMethodDescriptor "([J[D)[D" = some ⟨[(.array .long), (.array .double)], some (.array .double)⟩ := by decide +kernel
theorem dw_0 : decode prog_1_method_17_code 0 = .ok (.aload_n 1, 1) := by decide +kernel
theorem dw_1 : decode prog_1_method_17_code 1 = .ok (.aload_n 2, 1) := by decide +kernel
theorem dw_2 : decode prog_1_method_17_code 2 = .ok (.invokestatic 193, 3) := by decide +kernel
theorem dw_5 : decode prog_1_method_17_code 5 = .ok (.astore_n 3, 1) := by decide +kernel
theorem dw_6 : decode prog_1_method_17_code 6 = .ok (.aload_n 3, 1) := by decide +kernel
theorem dw_7 : decode prog_1_method_17_code 7 = .ok (.arraylength, 1) := by decide +kernel
theorem dw_8 : decode prog_1_method_17_code 8 = .ok (.newarray .double, 2) := by decide +kernel
theorem dw_10 : decode prog_1_method_17_code 10 = .ok (.astore 4, 2) := by decide +kernel
theorem dw_12 : decode prog_1_method_17_code 12 = .ok (.iconst 0, 1) := by decide +kernel
theorem dw_13 : decode prog_1_method_17_code 13 = .ok (.istore 5, 2) := by decide +kernel
theorem dw_15 : decode prog_1_method_17_code 15 = .ok (.iload 5, 2) := by decide +kernel
theorem dw_17 : decode prog_1_method_17_code 17 = .ok (.aload 4, 2) := by decide +kernel
theorem dw_19 : decode prog_1_method_17_code 19 = .ok (.arraylength, 1) := by decide +kernel
theorem dw_20 : decode prog_1_method_17_code 20 = .ok (.if_icmp .ge 24, 3) := by decide +kernel
theorem dw_23 : decode prog_1_method_17_code 23 = .ok (.aload 4, 2) := by decide +kernel
theorem dw_25 : decode prog_1_method_17_code 25 = .ok (.iload 5, 2) := by decide +kernel
theorem dw_27 : decode prog_1_method_17_code 27 = .ok (.aload_n 0, 1) := by decide +kernel
theorem dw_28 : decode prog_1_method_17_code 28 = .ok (.iload 5, 2) := by decide +kernel
theorem dw_30 : decode prog_1_method_17_code 30 = .ok (.laload, 1) := by decide +kernel
theorem dw_31 : decode prog_1_method_17_code 31 = .ok (.l2d, 1) := by decide +kernel
theorem dw_32 : decode prog_1_method_17_code 32 = .ok (.aload_n 3, 1) := by decide +kernel
theorem dw_33 : decode prog_1_method_17_code 33 = .ok (.iload 5, 2) := by decide +kernel
theorem dw_35 : decode prog_1_method_17_code 35 = .ok (.daload, 1) := by decide +kernel
theorem dw_36 : decode prog_1_method_17_code 36 = .ok (.dmul, 1) := by decide +kernel
theorem dw_37 : decode prog_1_method_17_code 37 = .ok (.dastore, 1) := by decide +kernel
theorem dw_38 : decode prog_1_method_17_code 38 = .ok (.iinc 5 1, 3) := by decide +kernel
theorem dw_41 : decode prog_1_method_17_code 41 = .ok (.goto (-26), 3) := by decide +kernel
theorem dw_44 : decode prog_1_method_17_code 44 = .ok (.aload 4, 2) := by decide +kernel
theorem dw_46 : decode prog_1_method_17_code 46 = .ok (.areturn, 1) := by decide +kernel
set_option maxRecDepth 65536 in
set_option maxHeartbeats 40000000 in
theorem c_wt111 (l : Launch) (Z : State) (a0 : Array Value) (hw : ∀ d ∈ tables_1, d.before a0 Z = true) (a1 : Addr) (a2 : Addr) (a3 : Addr) (h0 : Heap) (n0 : Nat) (c0 c1 c2 : Int64) (t0 t1 t2 : UInt64) (fc ft : Nat → Value) (m0 : Jvm.Free.Fl.Mag64 1056 t0) (m1 : Jvm.Free.Fl.Mag64 1056 t1) (m2 : Jvm.Free.Fl.Mag64 1056 t2) (hc0 : fc 0 = .long c0) (hc1 : fc 1 = .long c1) (hc2 : fc 2 = .long c2) (ht0 : ft 0 = .double t0) (ht1 : ft 1 = .double t1) (ht2 : ft 2 = .double t2) (q0 q1 q2 : Int64) (fq : Nat → Value) (hq0 : fq 0 = .long q0) (hq1 : fq 1 = .long q1) (hq2 : fq 2 = .long q2) (s0 : (0 : Int64) < c0) (s1 : (0 : Int64) < c1) (s2 : (0 : Int64) < c2) (Zn : n0 ≤ h0.size) (A_a1 : Ary Z h0 a1 .long 3 fq) (A_a2 : Ary Z h0 a2 .long 3 fc) (A_a3 : Ary Z h0 a3 .double 3 ft) :
    Con l Z (⟨"com/example/tuned_conveyor/tunedconveyor/Allocation", "weights", "([J[J[D)[D"⟩ : MethodName) prog_1_method_17_code 6 (some (.array .double)) ({ frames := 1, cells := 2, slots := 6, locals := 20 } : Room) #[(.ref a1), (.ref a2), (.ref a3)] h0 n0 (fun v h => ∃ (b : Addr) (f : Nat → Value), v = some (.ref b) ∧ n0 ≤ b ∧ h0.size ≤ b ∧ Ary Z h b .double 3 f ∧ f 0 = .double (FP.dmul (FP.l2d q0) (FP.ddiv t0 (FP.l2d c0))) ∧ f 1 = .double (FP.dmul (FP.l2d q1) (FP.ddiv t1 (FP.l2d c1))) ∧ f 2 = .double (FP.dmul (FP.l2d q2) (FP.ddiv t2 (FP.l2d c2)))) := by
  refine Con.of (plainFor_of_name (by first | (simp [plainName, overriddenIn]; done) | decide +kernel)) (L0 := #[.val (.ref a1), .val (.ref a2), .val (.ref a3), .unset, .unset, .unset]) (fun m => by first | (simp [entryFrame, mkF, argsToLocals, Value.category]; done) | rfl) ?_
  intro p e s m below meth c T C S
  have Kp := Keep.refl h0 []
  have lt_a1 := A_a1.lt
  refine g_aloadN C S dw_0 (pc' := 1) rfl rfl rfl ?_
  refine g_aloadN C S dw_1 (pc' := 2) rfl rfl rfl ?_
  refine g_callS C S (rm := ({ frames := 0, cells := 1, slots := 3, locals := 0 } : Room)) (W := 0) dw_2 (hw _ (List.mem_of_getElem? (i := 9) rfl)) (hw _ (List.mem_of_getElem? (i := 10) rfl)) (hw _ (List.mem_of_getElem? (i := 7) rfl)) (hw _ (List.mem_of_getElem? (i := 11) rfl)) (by decide) (c_st111 l Z a0 hw a2 a3 h0 n0 c0 c1 c2 t0 t1 t2 fc ft m0 m1 m2 hc0 hc1 hc2 ht0 ht1 ht2 s0 s1 s2 Zn A_a2 A_a3) (argsL := [(.ref a2), (.ref a3)]) (r := []) rfl (lenOf pd_0 rfl) rfl (Nat.le_of_eq rfl) (by decide) (by decide) (by decide) (by decide) (pc' := 5) rfl (fun T25 h25 v25 q25 S => ?_)
  obtain ⟨b25, fs, rfl, ge_b25, sz_b25, K25, A_b25, hs0, hs1, hs2⟩ := q25
  have Kp := Kp.trans K25 all0
  have A_a1 := A_a1.keep K25 nin0
  have Zn := Nat.le_trans Zn K25.1
  have ne_a1_b25 : a1 ≠ b25 := Nat.ne_of_lt (Nat.lt_of_lt_of_le lt_a1 sz_b25)
  show Gl p e below s _ n0 _ T25 (mkF m 5 #[.val (.ref a1), .val (.ref a2), .val (.ref a3), .unset, .unset, .unset] [(.ref b25)])
  refine g_astoreN C S dw_5 (pc' := 6) rfl rfl (L' := #[.val (.ref a1), .val (.ref a2), .val (.ref a3), .val (.ref b25), .unset, .unset]) rfl ?_
  refine g_aloadN C S dw_6 (pc' := 7) rfl rfl rfl ?_
  refine g_arraylength C S (x := (3 : Int32)) dw_7 A_b25 (by decide) (pc' := 8) rfl ?_
  refine g_newarray C S (N := 3) (cap := 3) dw_8 (hw _ (List.mem_of_getElem? (i := 4) rfl)) (by decide) (by decide) (by decide) (by decide) (by decide) (pc' := 10) rfl (fun T26 h26 a26 S g26 E26 A_a26 => ?_)
  have ne_a1_a26 : a1 ≠ a26 := ne_new g26 A_a1.lt
  have ne_b25_a26 : b25 ≠ a26 := ne_new g26 A_b25.lt
  have sz_a26 : h0.size ≤ a26 := ge_of g26 Kp.1
  have ge_a26 : n0 ≤ a26 := ge_of g26 Zn
  have Kp := Kp.ext E26
  have A_a1 := A_a1.ext E26
  have Zn := Nat.le_trans Zn E26.1
  have A_b25 := A_b25.ext E26
  have A_a26 : Ary Z h26 a26 .double 3 (fun _ => (.double 0)) := A_a26
  refine g_astore C S dw_10 (pc' := 12) rfl rfl (L' := #[.val (.ref a1), .val (.ref a2), .val (.ref a3), .val (.ref b25), .val (.ref a26), .unset]) rfl ?_
  refine g_iconst C S (0 : Int32) dw_12 (pc' := 13) rfl rfl ?_
  refine g_istore C S dw_13 (pc' := 15) rfl (L' := #[.val (.ref a1), .val (.ref a2), .val (.ref a3), .val (.ref b25), .val (.ref a26), .val (.int (0 : Int32))]) rfl ?_
  refine g_iload C S dw_15 (pc' := 17) rfl rfl ?_
  refine g_aload C S dw_17 (pc' := 19) rfl rfl rfl ?_
  refine g_arraylength C S (x := (3 : Int32)) dw_19 A_a26 (by decide) (pc' := 20) rfl ?_
  refine g_icmp_ge C S dw_20 (pc' := 44) (pf := 23) (by decide) (by decide) rfl (fun hc20 => absurd (by decide) hc20) (fun hc20 => ?_)
  refine g_aload C S dw_23 (pc' := 25) rfl rfl rfl ?_
  refine g_iload C S dw_25 (pc' := 27) rfl rfl ?_
  refine g_aloadN C S dw_27 (pc' := 28) rfl rfl rfl ?_
  refine g_iload C S dw_28 (pc' := 30) rfl rfl ?_
  refine g_laload C S (i := 0) (v := (.long q0)) dw_30 A_a1 (by decide) (by decide) hq0 (pc' := 31) rfl ?_
  refine g_l2d C S dw_31 (pc' := 32) rfl ?_
  refine g_aloadN C S dw_32 (pc' := 33) rfl rfl rfl ?_
  refine g_iload C S dw_33 (pc' := 35) rfl rfl ?_
  refine g_daload C S (i := 0) (v := (.double (FP.ddiv t0 (FP.l2d c0)))) dw_35 A_b25 (by decide) (by decide) hs0 (pc' := 36) rfl ?_
  refine g_dmul C S dw_36 (pc' := 37) rfl (nn_of (Jvm.Free.Fl.dmul_mag (Ka := 1088) (Kb := 1057) (Jvm.Free.Fl.l2d_mag _) (ddiv_mag (K := 1056) (L := 1023) m0 (l2d_big (own_nz s0)) (by decide) (by decide)) (by decide) (by decide)) (by decide)) ?_
  refine g_dastore C S (i := 0) dw_37 A_a26 (by decide) (by decide) ge_a26 (pc' := 38) rfl (fun T27 h27 S W27 B27 => ?_)
  have A_a1 := A_a1.other W27 ne_a1_a26
  have Zn := Nat.le_trans Zn (Nat.le_of_eq W27.size.symm)
  have A_b25 := A_b25.other W27 ne_b25_a26
  have A_a26 := B27
  have Kp := Kp.wr W27 (Or.inr sz_a26)
  refine g_iincL C S (1 : Int32) (1 : Int32) dw_38 (pc' := 41) rfl rfl (by decide) rfl (L' := #[.val (.ref a1), .val (.ref a2), .val (.ref a3), .val (.ref b25), .val (.ref a26), .val (.int (1 : Int32))]) rfl ?_
  refine g_goto C S dw_41 (pc' := 15) (by decide) (by decide) ?_
  refine g_iload C S dw_15 (pc' := 17) rfl rfl ?_
  refine g_aload C S dw_17 (pc' := 19) rfl rfl rfl ?_
  refine g_arraylength C S (x := (3 : Int32)) dw_19 A_a26 (by decide) (pc' := 20) rfl ?_
  refine g_icmp_ge C S dw_20 (pc' := 44) (pf := 23) (by decide) (by decide) rfl (fun hc20 => absurd (by decide) hc20) (fun hc20 => ?_)
  refine g_aload C S dw_23 (pc' := 25) rfl rfl rfl ?_
  refine g_iload C S dw_25 (pc' := 27) rfl rfl ?_
  refine g_aloadN C S dw_27 (pc' := 28) rfl rfl rfl ?_
  refine g_iload C S dw_28 (pc' := 30) rfl rfl ?_
  refine g_laload C S (i := 1) (v := (.long q1)) dw_30 A_a1 (by decide) (by decide) hq1 (pc' := 31) rfl ?_
  refine g_l2d C S dw_31 (pc' := 32) rfl ?_
  refine g_aloadN C S dw_32 (pc' := 33) rfl rfl rfl ?_
  refine g_iload C S dw_33 (pc' := 35) rfl rfl ?_
  refine g_daload C S (i := 1) (v := (.double (FP.ddiv t1 (FP.l2d c1)))) dw_35 A_b25 (by decide) (by decide) hs1 (pc' := 36) rfl ?_
  refine g_dmul C S dw_36 (pc' := 37) rfl (nn_of (Jvm.Free.Fl.dmul_mag (Ka := 1088) (Kb := 1057) (Jvm.Free.Fl.l2d_mag _) (ddiv_mag (K := 1056) (L := 1023) m1 (l2d_big (own_nz s1)) (by decide) (by decide)) (by decide) (by decide)) (by decide)) ?_
  refine g_dastore C S (i := 1) dw_37 A_a26 (by decide) (by decide) ge_a26 (pc' := 38) rfl (fun T28 h28 S W28 B28 => ?_)
  have A_a1 := A_a1.other W28 ne_a1_a26
  have Zn := Nat.le_trans Zn (Nat.le_of_eq W28.size.symm)
  have A_b25 := A_b25.other W28 ne_b25_a26
  have A_a26 := B28
  have Kp := Kp.wr W28 (Or.inr sz_a26)
  refine g_iincL C S (1 : Int32) (2 : Int32) dw_38 (pc' := 41) rfl rfl (by decide) rfl (L' := #[.val (.ref a1), .val (.ref a2), .val (.ref a3), .val (.ref b25), .val (.ref a26), .val (.int (2 : Int32))]) rfl ?_
  refine g_goto C S dw_41 (pc' := 15) (by decide) (by decide) ?_
  refine g_iload C S dw_15 (pc' := 17) rfl rfl ?_
  refine g_aload C S dw_17 (pc' := 19) rfl rfl rfl ?_
  refine g_arraylength C S (x := (3 : Int32)) dw_19 A_a26 (by decide) (pc' := 20) rfl ?_
  refine g_icmp_ge C S dw_20 (pc' := 44) (pf := 23) (by decide) (by decide) rfl (fun hc20 => absurd (by decide) hc20) (fun hc20 => ?_)
  refine g_aload C S dw_23 (pc' := 25) rfl rfl rfl ?_
  refine g_iload C S dw_25 (pc' := 27) rfl rfl ?_
  refine g_aloadN C S dw_27 (pc' := 28) rfl rfl rfl ?_
  refine g_iload C S dw_28 (pc' := 30) rfl rfl ?_
  refine g_laload C S (i := 2) (v := (.long q2)) dw_30 A_a1 (by decide) (by decide) hq2 (pc' := 31) rfl ?_
  refine g_l2d C S dw_31 (pc' := 32) rfl ?_
  refine g_aloadN C S dw_32 (pc' := 33) rfl rfl rfl ?_
  refine g_iload C S dw_33 (pc' := 35) rfl rfl ?_
  refine g_daload C S (i := 2) (v := (.double (FP.ddiv t2 (FP.l2d c2)))) dw_35 A_b25 (by decide) (by decide) hs2 (pc' := 36) rfl ?_
  refine g_dmul C S dw_36 (pc' := 37) rfl (nn_of (Jvm.Free.Fl.dmul_mag (Ka := 1088) (Kb := 1057) (Jvm.Free.Fl.l2d_mag _) (ddiv_mag (K := 1056) (L := 1023) m2 (l2d_big (own_nz s2)) (by decide) (by decide)) (by decide) (by decide)) (by decide)) ?_
  refine g_dastore C S (i := 2) dw_37 A_a26 (by decide) (by decide) ge_a26 (pc' := 38) rfl (fun T29 h29 S W29 B29 => ?_)
  have A_a1 := A_a1.other W29 ne_a1_a26
  have Zn := Nat.le_trans Zn (Nat.le_of_eq W29.size.symm)
  have A_b25 := A_b25.other W29 ne_b25_a26
  have A_a26 := B29
  have Kp := Kp.wr W29 (Or.inr sz_a26)
  refine g_iincL C S (1 : Int32) (3 : Int32) dw_38 (pc' := 41) rfl rfl (by decide) rfl (L' := #[.val (.ref a1), .val (.ref a2), .val (.ref a3), .val (.ref b25), .val (.ref a26), .val (.int (3 : Int32))]) rfl ?_
  refine g_goto C S dw_41 (pc' := 15) (by decide) (by decide) ?_
  refine g_iload C S dw_15 (pc' := 17) rfl rfl ?_
  refine g_aload C S dw_17 (pc' := 19) rfl rfl rfl ?_
  refine g_arraylength C S (x := (3 : Int32)) dw_19 A_a26 (by decide) (pc' := 20) rfl ?_
  refine g_icmp_ge C S dw_20 (pc' := 44) (pf := 23) (by decide) (by decide) rfl (fun hc20 => ?_) (fun hc20 => absurd hc20 (by decide))
  refine g_aload C S dw_44 (pc' := 46) rfl rfl rfl ?_
  exact g_retA C S dw_46 rfl rfl rfl (by decide) (by decide) (⟨a26, _, rfl, ge_a26, sz_a26, A_a26, rfl, rfl, rfl⟩)
theorem ds_105 : decode prog_1_method_18_code 105 = .ok (.dload 5, 2) := by decide +kernel
set_option maxRecDepth 65536 in
set_option maxHeartbeats 40000000 in
theorem c_st110 (l : Launch) (Z : State) (a0 : Array Value) (hw : ∀ d ∈ tables_1, d.before a0 Z = true) (a1 : Addr) (a2 : Addr) (h0 : Heap) (n0 : Nat) (c0 c1 c2 : Int64) (t0 t1 t2 : UInt64) (fc ft : Nat → Value) (m0 : Jvm.Free.Fl.Mag64 1056 t0) (m1 : Jvm.Free.Fl.Mag64 1056 t1) (m2 : Jvm.Free.Fl.Mag64 1056 t2) (hc0 : fc 0 = .long c0) (hc1 : fc 1 = .long c1) (hc2 : fc 2 = .long c2) (ht0 : ft 0 = .double t0) (ht1 : ft 1 = .double t1) (ht2 : ft 2 = .double t2) (s0 : (0 : Int64) < c0) (s1 : (0 : Int64) < c1) (s2 : ¬ (0 : Int64) < c2) (Zn : n0 ≤ h0.size) (A_a1 : Ary Z h0 a1 .long 3 fc) (A_a2 : Ary Z h0 a2 .double 3 ft) :
    Con l Z (⟨"com/example/tuned_conveyor/tunedconveyor/Allocation", "serviceTimes", "([J[D)[D"⟩ : MethodName) prog_1_method_18_code 9 (some (.array .double)) ({ frames := 0, cells := 1, slots := 3, locals := 0 } : Room) #[(.ref a1), (.ref a2)] h0 n0 (fun v h => ∃ (b : Addr) (f : Nat → Value), v = some (.ref b) ∧ n0 ≤ b ∧ h0.size ≤ b ∧ Keep h0 h [] ∧ Ary Z h b .double 3 f ∧ f 0 = .double (FP.ddiv t0 (FP.l2d c0)) ∧ f 1 = .double (FP.ddiv t1 (FP.l2d c1)) ∧ f 2 = .double (FP.ddiv (FP.dadd (FP.dadd FP.dconst0 (FP.ddiv t0 (FP.l2d c0))) (FP.ddiv t1 (FP.l2d c1))) (FP.i2d (((0 : Int32) + (1 : Int32)) + (1 : Int32))))) := by
  refine Con.of (plainFor_of_name (by first | (simp [plainName, overriddenIn]; done) | decide +kernel)) (L0 := #[.val (.ref a1), .val (.ref a2), .unset, .unset, .unset, .unset, .unset, .unset, .unset]) (fun m => by first | (simp [entryFrame, mkF, argsToLocals, Value.category]; done) | rfl) ?_
  intro p e s m below meth c T C S
  have Kp := Keep.refl h0 []
  refine g_dconst0 C S ds_0 (pc' := 1) rfl ?_
  refine g_dstoreN C S ds_1 (pc' := 2) rfl (L' := #[.val (.ref a1), .val (.ref a2), .val (.double FP.dconst0), .second, .unset, .unset, .unset, .unset, .unset]) rfl ?_
  refine g_iconst C S (0 : Int32) ds_2 (pc' := 3) rfl rfl ?_
  refine g_istore C S ds_3 (pc' := 5) rfl (L' := #[.val (.ref a1), .val (.ref a2), .val (.double FP.dconst0), .second, .val (.int (0 : Int32)), .unset, .unset, .unset, .unset]) rfl ?_
  refine g_iconst C S (0 : Int32) ds_5 (pc' := 6) rfl rfl ?_
  refine g_istore C S ds_6 (pc' := 8) rfl (L' := #[.val (.ref a1), .val (.ref a2), .val (.double FP.dconst0), .second, .val (.int (0 : Int32)), .val (.int (0 : Int32)), .unset, .unset, .unset]) rfl ?_
  refine g_iload C S ds_8 (pc' := 10) rfl rfl ?_
  refine g_aloadN C S ds_10 (pc' := 11) rfl rfl rfl ?_
  refine g_arraylength C S (x := (3 : Int32)) ds_11 A_a1 (by decide) (pc' := 12) rfl ?_
  refine g_icmp_ge C S ds_12 (pc' := 46) (pf := 15) (by decide) (by decide) rfl (fun hc12 => absurd (by decide) hc12) (fun hc12 => ?_)
  refine g_aloadN C S ds_15 (pc' := 16) rfl rfl rfl ?_
  refine g_iload C S ds_16 (pc' := 18) rfl rfl ?_
  refine g_laload C S (i := 0) (v := (.long c0)) ds_18 A_a1 (by decide) (by decide) hc0 (pc' := 19) rfl ?_
  refine g_lconst C S (0 : Int64) ds_19 (pc' := 20) rfl rfl ?_
  refine g_lcmp C S ds_20 (pc' := 21) rfl ?_
  refine g_lif_le C S ds_21 (pc' := 40) (pf := 24) (by decide) (by decide) rfl (fun hc21 => absurd s0 hc21) (fun hc21 => ?_)
  refine g_dloadN C S ds_24 (pc' := 25) rfl rfl ?_
  refine g_aloadN C S ds_25 (pc' := 26) rfl rfl rfl ?_
  refine g_iload C S ds_26 (pc' := 28) rfl rfl ?_
  refine g_daload C S (i := 0) (v := (.double t0)) ds_28 A_a2 (by decide) (by decide) ht0 (pc' := 29) rfl ?_
  refine g_aloadN C S ds_29 (pc' := 30) rfl rfl rfl ?_
  refine g_iload C S ds_30 (pc' := 32) rfl rfl ?_
  refine g_laload C S (i := 0) (v := (.long c0)) ds_32 A_a1 (by decide) (by decide) hc0 (pc' := 33) rfl ?_
  refine g_l2d C S ds_33 (pc' := 34) rfl ?_
  refine g_ddiv C S ds_34 (pc' := 35) rfl (nn_of (ddiv_mag (K := 1056) (L := 1023) m0 (l2d_big (own_nz s0)) (by decide) (by decide)) (by decide)) ?_
  refine g_dadd C S ds_35 (pc' := 36) rfl (nn_of (Jvm.Free.Fl.dadd_mag (K := 1057) (Jvm.Free.Fl.Mag64.mono own_mag0 (by decide)) (Jvm.Free.Fl.Mag64.mono (ddiv_mag (K := 1056) (L := 1023) m0 (l2d_big (own_nz s0)) (by decide) (by decide)) (by decide)) (by decide)) (by decide)) ?_
  refine g_dstoreN C S ds_36 (pc' := 37) rfl (L' := #[.val (.ref a1), .val (.ref a2), .val (.double (FP.dadd FP.dconst0 (FP.ddiv t0 (FP.l2d c0)))), .second, .val (.int (0 : Int32)), .val (.int (0 : Int32)), .unset, .unset, .unset]) rfl ?_
  refine g_iincL C S (1 : Int32) (1 : Int32) ds_37 (pc' := 40) rfl rfl (by decide) rfl (L' := #[.val (.ref a1), .val (.ref a2), .val (.double (FP.dadd FP.dconst0 (FP.ddiv t0 (FP.l2d c0)))), .second, .val (.int (1 : Int32)), .val (.int (0 : Int32)), .unset, .unset, .unset]) rfl ?_
  refine g_iincL C S (1 : Int32) (1 : Int32) ds_40 (pc' := 43) rfl rfl (by decide) rfl (L' := #[.val (.ref a1), .val (.ref a2), .val (.double (FP.dadd FP.dconst0 (FP.ddiv t0 (FP.l2d c0)))), .second, .val (.int (1 : Int32)), .val (.int (1 : Int32)), .unset, .unset, .unset]) rfl ?_
  refine g_goto C S ds_43 (pc' := 8) (by decide) (by decide) ?_
  refine g_iload C S ds_8 (pc' := 10) rfl rfl ?_
  refine g_aloadN C S ds_10 (pc' := 11) rfl rfl rfl ?_
  refine g_arraylength C S (x := (3 : Int32)) ds_11 A_a1 (by decide) (pc' := 12) rfl ?_
  refine g_icmp_ge C S ds_12 (pc' := 46) (pf := 15) (by decide) (by decide) rfl (fun hc12 => absurd (by decide) hc12) (fun hc12 => ?_)
  refine g_aloadN C S ds_15 (pc' := 16) rfl rfl rfl ?_
  refine g_iload C S ds_16 (pc' := 18) rfl rfl ?_
  refine g_laload C S (i := 1) (v := (.long c1)) ds_18 A_a1 (by decide) (by decide) hc1 (pc' := 19) rfl ?_
  refine g_lconst C S (0 : Int64) ds_19 (pc' := 20) rfl rfl ?_
  refine g_lcmp C S ds_20 (pc' := 21) rfl ?_
  refine g_lif_le C S ds_21 (pc' := 40) (pf := 24) (by decide) (by decide) rfl (fun hc21 => absurd s1 hc21) (fun hc21 => ?_)
  refine g_dloadN C S ds_24 (pc' := 25) rfl rfl ?_
  refine g_aloadN C S ds_25 (pc' := 26) rfl rfl rfl ?_
  refine g_iload C S ds_26 (pc' := 28) rfl rfl ?_
  refine g_daload C S (i := 1) (v := (.double t1)) ds_28 A_a2 (by decide) (by decide) ht1 (pc' := 29) rfl ?_
  refine g_aloadN C S ds_29 (pc' := 30) rfl rfl rfl ?_
  refine g_iload C S ds_30 (pc' := 32) rfl rfl ?_
  refine g_laload C S (i := 1) (v := (.long c1)) ds_32 A_a1 (by decide) (by decide) hc1 (pc' := 33) rfl ?_
  refine g_l2d C S ds_33 (pc' := 34) rfl ?_
  refine g_ddiv C S ds_34 (pc' := 35) rfl (nn_of (ddiv_mag (K := 1056) (L := 1023) m1 (l2d_big (own_nz s1)) (by decide) (by decide)) (by decide)) ?_
  refine g_dadd C S ds_35 (pc' := 36) rfl (nn_of (Jvm.Free.Fl.dadd_mag (K := 1059) (Jvm.Free.Fl.Mag64.mono (Jvm.Free.Fl.dadd_mag (K := 1057) (Jvm.Free.Fl.Mag64.mono own_mag0 (by decide)) (Jvm.Free.Fl.Mag64.mono (ddiv_mag (K := 1056) (L := 1023) m0 (l2d_big (own_nz s0)) (by decide) (by decide)) (by decide)) (by decide)) (by decide)) (Jvm.Free.Fl.Mag64.mono (ddiv_mag (K := 1056) (L := 1023) m1 (l2d_big (own_nz s1)) (by decide) (by decide)) (by decide)) (by decide)) (by decide)) ?_
  refine g_dstoreN C S ds_36 (pc' := 37) rfl (L' := #[.val (.ref a1), .val (.ref a2), .val (.double (FP.dadd (FP.dadd FP.dconst0 (FP.ddiv t0 (FP.l2d c0))) (FP.ddiv t1 (FP.l2d c1)))), .second, .val (.int (1 : Int32)), .val (.int (1 : Int32)), .unset, .unset, .unset]) rfl ?_
  refine g_iincL C S (1 : Int32) (2 : Int32) ds_37 (pc' := 40) rfl rfl (by decide) rfl (L' := #[.val (.ref a1), .val (.ref a2), .val (.double (FP.dadd (FP.dadd FP.dconst0 (FP.ddiv t0 (FP.l2d c0))) (FP.ddiv t1 (FP.l2d c1)))), .second, .val (.int (2 : Int32)), .val (.int (1 : Int32)), .unset, .unset, .unset]) rfl ?_
  refine g_iincL C S (1 : Int32) (2 : Int32) ds_40 (pc' := 43) rfl rfl (by decide) rfl (L' := #[.val (.ref a1), .val (.ref a2), .val (.double (FP.dadd (FP.dadd FP.dconst0 (FP.ddiv t0 (FP.l2d c0))) (FP.ddiv t1 (FP.l2d c1)))), .second, .val (.int (2 : Int32)), .val (.int (2 : Int32)), .unset, .unset, .unset]) rfl ?_
  refine g_goto C S ds_43 (pc' := 8) (by decide) (by decide) ?_
  refine g_iload C S ds_8 (pc' := 10) rfl rfl ?_
  refine g_aloadN C S ds_10 (pc' := 11) rfl rfl rfl ?_
  refine g_arraylength C S (x := (3 : Int32)) ds_11 A_a1 (by decide) (pc' := 12) rfl ?_
  refine g_icmp_ge C S ds_12 (pc' := 46) (pf := 15) (by decide) (by decide) rfl (fun hc12 => absurd (by decide) hc12) (fun hc12 => ?_)
  refine g_aloadN C S ds_15 (pc' := 16) rfl rfl rfl ?_
  refine g_iload C S ds_16 (pc' := 18) rfl rfl ?_
  refine g_laload C S (i := 2) (v := (.long c2)) ds_18 A_a1 (by decide) (by decide) hc2 (pc' := 19) rfl ?_
  refine g_lconst C S (0 : Int64) ds_19 (pc' := 20) rfl rfl ?_
  refine g_lcmp C S ds_20 (pc' := 21) rfl ?_
  refine g_lif_le C S ds_21 (pc' := 40) (pf := 24) (by decide) (by decide) rfl (fun hc21 => ?_) (fun hc21 => absurd hc21 s2)
  refine g_iincL C S (1 : Int32) (3 : Int32) ds_40 (pc' := 43) rfl rfl (by decide) rfl (L' := #[.val (.ref a1), .val (.ref a2), .val (.double (FP.dadd (FP.dadd FP.dconst0 (FP.ddiv t0 (FP.l2d c0))) (FP.ddiv t1 (FP.l2d c1)))), .second, .val (.int (2 : Int32)), .val (.int (3 : Int32)), .unset, .unset, .unset]) rfl ?_
  refine g_goto C S ds_43 (pc' := 8) (by decide) (by decide) ?_
  refine g_iload C S ds_8 (pc' := 10) rfl rfl ?_
  refine g_aloadN C S ds_10 (pc' := 11) rfl rfl rfl ?_
  refine g_arraylength C S (x := (3 : Int32)) ds_11 A_a1 (by decide) (pc' := 12) rfl ?_
  refine g_icmp_ge C S ds_12 (pc' := 46) (pf := 15) (by decide) (by decide) rfl (fun hc12 => ?_) (fun hc12 => absurd hc12 (by decide))
  refine g_iload C S ds_46 (pc' := 48) rfl rfl ?_
  refine g_if_ne C S ds_48 (pc' := 55) (pf := 51) (by decide) (by decide) rfl (fun hc48 => ?_) (fun hc48 => absurd hc48 (by decide))
  refine g_dloadN C S ds_55 (pc' := 56) rfl rfl ?_
  refine g_iload C S ds_56 (pc' := 58) rfl rfl ?_
  refine g_i2d C S ds_58 (pc' := 59) rfl ?_
  refine g_ddiv C S ds_59 (pc' := 60) rfl (nn_of (ddiv_mag (K := 1061) (L := 1023) (Jvm.Free.Fl.dadd_mag (K := 1059) (Jvm.Free.Fl.Mag64.mono (Jvm.Free.Fl.dadd_mag (K := 1057) (Jvm.Free.Fl.Mag64.mono own_mag0 (by decide)) (Jvm.Free.Fl.Mag64.mono (ddiv_mag (K := 1056) (L := 1023) m0 (l2d_big (own_nz s0)) (by decide) (by decide)) (by decide)) (by decide)) (by decide)) (Jvm.Free.Fl.Mag64.mono (ddiv_mag (K := 1056) (L := 1023) m1 (l2d_big (own_nz s1)) (by decide) (by decide)) (by decide)) (by decide)) (own_i2d (by decide)) (by decide) (by decide)) (by decide)) ?_
  refine g_dstore C S ds_60 (pc' := 62) rfl (L' := #[.val (.ref a1), .val (.ref a2), .val (.double (FP.dadd (FP.dadd FP.dconst0 (FP.ddiv t0 (FP.l2d c0))) (FP.ddiv t1 (FP.l2d c1)))), .second, .val (.int (2 : Int32)), .val (.double (FP.ddiv (FP.dadd (FP.dadd FP.dconst0 (FP.ddiv t0 (FP.l2d c0))) (FP.ddiv t1 (FP.l2d c1))) (FP.i2d (2 : Int32)))), .second, .unset, .unset]) rfl ?_
  refine g_aloadN C S ds_62 (pc' := 63) rfl rfl rfl ?_
  refine g_arraylength C S (x := (3 : Int32)) ds_63 A_a1 (by decide) (pc' := 64) rfl ?_
  refine g_newarray C S (N := 3) (cap := 3) ds_64 (hw _ (List.mem_of_getElem? (i := 4) rfl)) (by decide) (by decide) (by decide) (by decide) (by decide) (pc' := 66) rfl (fun T30 h30 a30 S g30 E30 A_a30 => ?_)
  have ne_a1_a30 : a1 ≠ a30 := ne_new g30 A_a1.lt
  have ne_a2_a30 : a2 ≠ a30 := ne_new g30 A_a2.lt
  have sz_a30 : h0.size ≤ a30 := ge_of g30 Kp.1
  have ge_a30 : n0 ≤ a30 := ge_of g30 Zn
  have Kp := Kp.ext E30
  have A_a1 := A_a1.ext E30
  have A_a2 := A_a2.ext E30
  have Zn := Nat.le_trans Zn E30.1
  have A_a30 : Ary Z h30 a30 .double 3 (fun _ => (.double 0)) := A_a30
  refine g_astore C S ds_66 (pc' := 68) rfl rfl (L' := #[.val (.ref a1), .val (.ref a2), .val (.double (FP.dadd (FP.dadd FP.dconst0 (FP.ddiv t0 (FP.l2d c0))) (FP.ddiv t1 (FP.l2d c1)))), .second, .val (.int (2 : Int32)), .val (.double (FP.ddiv (FP.dadd (FP.dadd FP.dconst0 (FP.ddiv t0 (FP.l2d c0))) (FP.ddiv t1 (FP.l2d c1))) (FP.i2d (2 : Int32)))), .second, .val (.ref a30), .unset]) rfl ?_
  refine g_iconst C S (0 : Int32) ds_68 (pc' := 69) rfl rfl ?_
  refine g_istore C S ds_69 (pc' := 71) rfl (L' := #[.val (.ref a1), .val (.ref a2), .val (.double (FP.dadd (FP.dadd FP.dconst0 (FP.ddiv t0 (FP.l2d c0))) (FP.ddiv t1 (FP.l2d c1)))), .second, .val (.int (2 : Int32)), .val (.double (FP.ddiv (FP.dadd (FP.dadd FP.dconst0 (FP.ddiv t0 (FP.l2d c0))) (FP.ddiv t1 (FP.l2d c1))) (FP.i2d (2 : Int32)))), .second, .val (.ref a30), .val (.int (0 : Int32))]) rfl ?_
  refine g_iload C S ds_71 (pc' := 73) rfl rfl ?_
  refine g_aload C S ds_73 (pc' := 75) rfl rfl rfl ?_
  refine g_arraylength C S (x := (3 : Int32)) ds_75 A_a30 (by decide) (pc' := 76) rfl ?_
  refine g_icmp_ge C S ds_76 (pc' := 114) (pf := 79) (by decide) (by decide) rfl (fun hc76 => absurd (by decide) hc76) (fun hc76 => ?_)
  refine g_aload C S ds_79 (pc' := 81) rfl rfl rfl ?_
  refine g_iload C S ds_81 (pc' := 83) rfl rfl ?_
  refine g_aloadN C S ds_83 (pc' := 84) rfl rfl rfl ?_
  refine g_iload C S ds_84 (pc' := 86) rfl rfl ?_
  refine g_laload C S (i := 0) (v := (.long c0)) ds_86 A_a1 (by decide) (by decide) hc0 (pc' := 87) rfl ?_
  refine g_lconst C S (0 : Int64) ds_87 (pc' := 88) rfl rfl ?_
  refine g_lcmp C S ds_88 (pc' := 89) rfl ?_
  refine g_lif_le C S ds_89 (pc' := 105) (pf := 92) (by decide) (by decide) rfl (fun hc89 => absurd s0 hc89) (fun hc89 => ?_)
  refine g_aloadN C S ds_92 (pc' := 93) rfl rfl rfl ?_
  refine g_iload C S ds_93 (pc' := 95) rfl rfl ?_
  refine g_daload C S (i := 0) (v := (.double t0)) ds_95 A_a2 (by decide) (by decide) ht0 (pc' := 96) rfl ?_
  refine g_aloadN C S ds_96 (pc' := 97) rfl rfl rfl ?_
  refine g_iload C S ds_97 (pc' := 99) rfl rfl ?_
  refine g_laload C S (i := 0) (v := (.long c0)) ds_99 A_a1 (by decide) (by decide) hc0 (pc' := 100) rfl ?_
  refine g_l2d C S ds_100 (pc' := 101) rfl ?_
  refine g_ddiv C S ds_101 (pc' := 102) rfl (nn_of (ddiv_mag (K := 1056) (L := 1023) m0 (l2d_big (own_nz s0)) (by decide) (by decide)) (by decide)) ?_
  refine g_goto C S ds_102 (pc' := 107) (by decide) (by decide) ?_
  refine g_dastore C S (i := 0) ds_107 A_a30 (by decide) (by decide) ge_a30 (pc' := 108) rfl (fun T31 h31 S W31 B31 => ?_)
  have A_a1 := A_a1.other W31 ne_a1_a30
  have A_a2 := A_a2.other W31 ne_a2_a30
  have Zn := Nat.le_trans Zn (Nat.le_of_eq W31.size.symm)
  have A_a30 := B31
  have Kp := Kp.wr W31 (Or.inr sz_a30)
  refine g_iincL C S (1 : Int32) (1 : Int32) ds_108 (pc' := 111) rfl rfl (by decide) rfl (L' := #[.val (.ref a1), .val (.ref a2), .val (.double (FP.dadd (FP.dadd FP.dconst0 (FP.ddiv t0 (FP.l2d c0))) (FP.ddiv t1 (FP.l2d c1)))), .second, .val (.int (2 : Int32)), .val (.double (FP.ddiv (FP.dadd (FP.dadd FP.dconst0 (FP.ddiv t0 (FP.l2d c0))) (FP.ddiv t1 (FP.l2d c1))) (FP.i2d (2 : Int32)))), .second, .val (.ref a30), .val (.int (1 : Int32))]) rfl ?_
  refine g_goto C S ds_111 (pc' := 71) (by decide) (by decide) ?_
  refine g_iload C S ds_71 (pc' := 73) rfl rfl ?_
  refine g_aload C S ds_73 (pc' := 75) rfl rfl rfl ?_
  refine g_arraylength C S (x := (3 : Int32)) ds_75 A_a30 (by decide) (pc' := 76) rfl ?_
  refine g_icmp_ge C S ds_76 (pc' := 114) (pf := 79) (by decide) (by decide) rfl (fun hc76 => absurd (by decide) hc76) (fun hc76 => ?_)
  refine g_aload C S ds_79 (pc' := 81) rfl rfl rfl ?_
  refine g_iload C S ds_81 (pc' := 83) rfl rfl ?_
  refine g_aloadN C S ds_83 (pc' := 84) rfl rfl rfl ?_
  refine g_iload C S ds_84 (pc' := 86) rfl rfl ?_
  refine g_laload C S (i := 1) (v := (.long c1)) ds_86 A_a1 (by decide) (by decide) hc1 (pc' := 87) rfl ?_
  refine g_lconst C S (0 : Int64) ds_87 (pc' := 88) rfl rfl ?_
  refine g_lcmp C S ds_88 (pc' := 89) rfl ?_
  refine g_lif_le C S ds_89 (pc' := 105) (pf := 92) (by decide) (by decide) rfl (fun hc89 => absurd s1 hc89) (fun hc89 => ?_)
  refine g_aloadN C S ds_92 (pc' := 93) rfl rfl rfl ?_
  refine g_iload C S ds_93 (pc' := 95) rfl rfl ?_
  refine g_daload C S (i := 1) (v := (.double t1)) ds_95 A_a2 (by decide) (by decide) ht1 (pc' := 96) rfl ?_
  refine g_aloadN C S ds_96 (pc' := 97) rfl rfl rfl ?_
  refine g_iload C S ds_97 (pc' := 99) rfl rfl ?_
  refine g_laload C S (i := 1) (v := (.long c1)) ds_99 A_a1 (by decide) (by decide) hc1 (pc' := 100) rfl ?_
  refine g_l2d C S ds_100 (pc' := 101) rfl ?_
  refine g_ddiv C S ds_101 (pc' := 102) rfl (nn_of (ddiv_mag (K := 1056) (L := 1023) m1 (l2d_big (own_nz s1)) (by decide) (by decide)) (by decide)) ?_
  refine g_goto C S ds_102 (pc' := 107) (by decide) (by decide) ?_
  refine g_dastore C S (i := 1) ds_107 A_a30 (by decide) (by decide) ge_a30 (pc' := 108) rfl (fun T32 h32 S W32 B32 => ?_)
  have A_a1 := A_a1.other W32 ne_a1_a30
  have A_a2 := A_a2.other W32 ne_a2_a30
  have Zn := Nat.le_trans Zn (Nat.le_of_eq W32.size.symm)
  have A_a30 := B32
  have Kp := Kp.wr W32 (Or.inr sz_a30)
  refine g_iincL C S (1 : Int32) (2 : Int32) ds_108 (pc' := 111) rfl rfl (by decide) rfl (L' := #[.val (.ref a1), .val (.ref a2), .val (.double (FP.dadd (FP.dadd FP.dconst0 (FP.ddiv t0 (FP.l2d c0))) (FP.ddiv t1 (FP.l2d c1)))), .second, .val (.int (2 : Int32)), .val (.double (FP.ddiv (FP.dadd (FP.dadd FP.dconst0 (FP.ddiv t0 (FP.l2d c0))) (FP.ddiv t1 (FP.l2d c1))) (FP.i2d (2 : Int32)))), .second, .val (.ref a30), .val (.int (2 : Int32))]) rfl ?_
  refine g_goto C S ds_111 (pc' := 71) (by decide) (by decide) ?_
  refine g_iload C S ds_71 (pc' := 73) rfl rfl ?_
  refine g_aload C S ds_73 (pc' := 75) rfl rfl rfl ?_
  refine g_arraylength C S (x := (3 : Int32)) ds_75 A_a30 (by decide) (pc' := 76) rfl ?_
  refine g_icmp_ge C S ds_76 (pc' := 114) (pf := 79) (by decide) (by decide) rfl (fun hc76 => absurd (by decide) hc76) (fun hc76 => ?_)
  refine g_aload C S ds_79 (pc' := 81) rfl rfl rfl ?_
  refine g_iload C S ds_81 (pc' := 83) rfl rfl ?_
  refine g_aloadN C S ds_83 (pc' := 84) rfl rfl rfl ?_
  refine g_iload C S ds_84 (pc' := 86) rfl rfl ?_
  refine g_laload C S (i := 2) (v := (.long c2)) ds_86 A_a1 (by decide) (by decide) hc2 (pc' := 87) rfl ?_
  refine g_lconst C S (0 : Int64) ds_87 (pc' := 88) rfl rfl ?_
  refine g_lcmp C S ds_88 (pc' := 89) rfl ?_
  refine g_lif_le C S ds_89 (pc' := 105) (pf := 92) (by decide) (by decide) rfl (fun hc89 => ?_) (fun hc89 => absurd hc89 s2)
  refine g_dload C S ds_105 (pc' := 107) rfl rfl ?_
  refine g_dastore C S (i := 2) ds_107 A_a30 (by decide) (by decide) ge_a30 (pc' := 108) rfl (fun T33 h33 S W33 B33 => ?_)
  have A_a1 := A_a1.other W33 ne_a1_a30
  have A_a2 := A_a2.other W33 ne_a2_a30
  have Zn := Nat.le_trans Zn (Nat.le_of_eq W33.size.symm)
  have A_a30 := B33
  have Kp := Kp.wr W33 (Or.inr sz_a30)
  refine g_iincL C S (1 : Int32) (3 : Int32) ds_108 (pc' := 111) rfl rfl (by decide) rfl (L' := #[.val (.ref a1), .val (.ref a2), .val (.double (FP.dadd (FP.dadd FP.dconst0 (FP.ddiv t0 (FP.l2d c0))) (FP.ddiv t1 (FP.l2d c1)))), .second, .val (.int (2 : Int32)), .val (.double (FP.ddiv (FP.dadd (FP.dadd FP.dconst0 (FP.ddiv t0 (FP.l2d c0))) (FP.ddiv t1 (FP.l2d c1))) (FP.i2d (2 : Int32)))), .second, .val (.ref a30), .val (.int (3 : Int32))]) rfl ?_
  refine g_goto C S ds_111 (pc' := 71) (by decide) (by decide) ?_
  refine g_iload C S ds_71 (pc' := 73) rfl rfl ?_
  refine g_aload C S ds_73 (pc' := 75) rfl rfl rfl ?_
  refine g_arraylength C S (x := (3 : Int32)) ds_75 A_a30 (by decide) (pc' := 76) rfl ?_
  refine g_icmp_ge C S ds_76 (pc' := 114) (pf := 79) (by decide) (by decide) rfl (fun hc76 => ?_) (fun hc76 => absurd hc76 (by decide))
  refine g_aload C S ds_114 (pc' := 116) rfl rfl rfl ?_
  exact g_retA C S ds_116 rfl rfl rfl (by decide) (by decide) (⟨a30, _, rfl, ge_a30, sz_a30, Kp, A_a30, rfl, rfl, rfl⟩)
set_option maxRecDepth 65536 in
set_option maxHeartbeats 40000000 in
theorem c_wt110 (l : Launch) (Z : State) (a0 : Array Value) (hw : ∀ d ∈ tables_1, d.before a0 Z = true) (a1 : Addr) (a2 : Addr) (a3 : Addr) (h0 : Heap) (n0 : Nat) (c0 c1 c2 : Int64) (t0 t1 t2 : UInt64) (fc ft : Nat → Value) (m0 : Jvm.Free.Fl.Mag64 1056 t0) (m1 : Jvm.Free.Fl.Mag64 1056 t1) (m2 : Jvm.Free.Fl.Mag64 1056 t2) (hc0 : fc 0 = .long c0) (hc1 : fc 1 = .long c1) (hc2 : fc 2 = .long c2) (ht0 : ft 0 = .double t0) (ht1 : ft 1 = .double t1) (ht2 : ft 2 = .double t2) (q0 q1 q2 : Int64) (fq : Nat → Value) (hq0 : fq 0 = .long q0) (hq1 : fq 1 = .long q1) (hq2 : fq 2 = .long q2) (s0 : (0 : Int64) < c0) (s1 : (0 : Int64) < c1) (s2 : ¬ (0 : Int64) < c2) (Zn : n0 ≤ h0.size) (A_a1 : Ary Z h0 a1 .long 3 fq) (A_a2 : Ary Z h0 a2 .long 3 fc) (A_a3 : Ary Z h0 a3 .double 3 ft) :
    Con l Z (⟨"com/example/tuned_conveyor/tunedconveyor/Allocation", "weights", "([J[J[D)[D"⟩ : MethodName) prog_1_method_17_code 6 (some (.array .double)) ({ frames := 1, cells := 2, slots := 6, locals := 20 } : Room) #[(.ref a1), (.ref a2), (.ref a3)] h0 n0 (fun v h => ∃ (b : Addr) (f : Nat → Value), v = some (.ref b) ∧ n0 ≤ b ∧ h0.size ≤ b ∧ Ary Z h b .double 3 f ∧ f 0 = .double (FP.dmul (FP.l2d q0) (FP.ddiv t0 (FP.l2d c0))) ∧ f 1 = .double (FP.dmul (FP.l2d q1) (FP.ddiv t1 (FP.l2d c1))) ∧ f 2 = .double (FP.dmul (FP.l2d q2) (FP.ddiv (FP.dadd (FP.dadd FP.dconst0 (FP.ddiv t0 (FP.l2d c0))) (FP.ddiv t1 (FP.l2d c1))) (FP.i2d (((0 : Int32) + (1 : Int32)) + (1 : Int32)))))) := by
  refine Con.of (plainFor_of_name (by first | (simp [plainName, overriddenIn]; done) | decide +kernel)) (L0 := #[.val (.ref a1), .val (.ref a2), .val (.ref a3), .unset, .unset, .unset]) (fun m => by first | (simp [entryFrame, mkF, argsToLocals, Value.category]; done) | rfl) ?_
  intro p e s m below meth c T C S
  have Kp := Keep.refl h0 []
  have lt_a1 := A_a1.lt
  refine g_aloadN C S dw_0 (pc' := 1) rfl rfl rfl ?_
  refine g_aloadN C S dw_1 (pc' := 2) rfl rfl rfl ?_
  refine g_callS C S (rm := ({ frames := 0, cells := 1, slots := 3, locals := 0 } : Room)) (W := 0) dw_2 (hw _ (List.mem_of_getElem? (i := 9) rfl)) (hw _ (List.mem_of_getElem? (i := 10) rfl)) (hw _ (List.mem_of_getElem? (i := 7) rfl)) (hw _ (List.mem_of_getElem? (i := 11) rfl)) (by decide) (c_st110 l Z a0 hw a2 a3 h0 n0 c0 c1 c2 t0 t1 t2 fc ft m0 m1 m2 hc0 hc1 hc2 ht0 ht1 ht2 s0 s1 s2 Zn A_a2 A_a3) (argsL := [(.ref a2), (.ref a3)]) (r := []) rfl (lenOf pd_0 rfl) rfl (Nat.le_of_eq rfl) (by decide) (by decide) (by decide) (by decide) (pc' := 5) rfl (fun T34 h34 v34 q34 S => ?_)
  obtain ⟨b34, fs, rfl, ge_b34, sz_b34, K34, A_b34, hs0, hs1, hs2⟩ := q34
  have Kp := Kp.trans K34 all0
  have A_a1 := A_a1.keep K34 nin0
  have Zn := Nat.le_trans Zn K34.1
  have ne_a1_b34 : a1 ≠ b34 := Nat.ne_of_lt (Nat.lt_of_lt_of_le lt_a1 sz_b34)
  show Gl p e below s _ n0 _ T34 (mkF m 5 #[.val (.ref a1), .val (.ref a2), .val (.ref a3), .unset, .unset, .unset] [(.ref b34)])
  refine g_astoreN C S dw_5 (pc' := 6) rfl rfl (L' := #[.val (.ref a1), .val (.ref a2), .val (.ref a3), .val (.ref b34), .unset, .unset]) rfl ?_
  refine g_aloadN C S dw_6 (pc' := 7) rfl rfl rfl ?_
  refine g_arraylength C S (x := (3 : Int32)) dw_7 A_b34 (by decide) (pc' := 8) rfl ?_
  refine g_newarray C S (N := 3) (cap := 3) dw_8 (hw _ (List.mem_of_getElem? (i := 4) rfl)) (by decide) (by decide) (by decide) (by decide) (by decide) (pc' := 10) rfl (fun T35 h35 a35 S g35 E35 A_a35 => ?_)
  have ne_a1_a35 : a1 ≠ a35 := ne_new g35 A_a1.lt
  have ne_b34_a35 : b34 ≠ a35 := ne_new g35 A_b34.lt
  have sz_a35 : h0.size ≤ a35 := ge_of g35 Kp.1
  have ge_a35 : n0 ≤ a35 := ge_of g35 Zn
  have Kp := Kp.ext E35
  have A_a1 := A_a1.ext E35
  have Zn := Nat.le_trans Zn E35.1
  have A_b34 := A_b34.ext E35
  have A_a35 : Ary Z h35 a35 .double 3 (fun _ => (.double 0)) := A_a35
  refine g_astore C S dw_10 (pc' := 12) rfl rfl (L' := #[.val (.ref a1), .val (.ref a2), .val (.ref a3), .val (.ref b34), .val (.ref a35), .unset]) rfl ?_
  refine g_iconst C S (0 : Int32) dw_12 (pc' := 13) rfl rfl ?_
  refine g_istore C S dw_13 (pc' := 15) rfl (L' := #[.val (.ref a1), .val (.ref a2), .val (.ref a3), .val (.ref b34), .val (.ref a35), .val (.int (0 : Int32))]) rfl ?_
  refine g_iload C S dw_15 (pc' := 17) rfl rfl ?_
  refine g_aload C S dw_17 (pc' := 19) rfl rfl rfl ?_
  refine g_arraylength C S (x := (3 : Int32)) dw_19 A_a35 (by decide) (pc' := 20) rfl ?_
  refine g_icmp_ge C S dw_20 (pc' := 44) (pf := 23) (by decide) (by decide) rfl (fun hc20 => absurd (by decide) hc20) (fun hc20 => ?_)
  refine g_aload C S dw_23 (pc' := 25) rfl rfl rfl ?_
  refine g_iload C S dw_25 (pc' := 27) rfl rfl ?_
  refine g_aloadN C S dw_27 (pc' := 28) rfl rfl rfl ?_
  refine g_iload C S dw_28 (pc' := 30) rfl rfl ?_
  refine g_laload C S (i := 0) (v := (.long q0)) dw_30 A_a1 (by decide) (by decide) hq0 (pc' := 31) rfl ?_
  refine g_l2d C S dw_31 (pc' := 32) rfl ?_
  refine g_aloadN C S dw_32 (pc' := 33) rfl rfl rfl ?_
  refine g_iload C S dw_33 (pc' := 35) rfl rfl ?_
  refine g_daload C S (i := 0) (v := (.double (FP.ddiv t0 (FP.l2d c0)))) dw_35 A_b34 (by decide) (by decide) hs0 (pc' := 36) rfl ?_
  refine g_dmul C S dw_36 (pc' := 37) rfl (nn_of (Jvm.Free.Fl.dmul_mag (Ka := 1088) (Kb := 1057) (Jvm.Free.Fl.l2d_mag _) (ddiv_mag (K := 1056) (L := 1023) m0 (l2d_big (own_nz s0)) (by decide) (by decide)) (by decide) (by decide)) (by decide)) ?_
  refine g_dastore C S (i := 0) dw_37 A_a35 (by decide) (by decide) ge_a35 (pc' := 38) rfl (fun T36 h36 S W36 B36 => ?_)
  have A_a1 := A_a1.other W36 ne_a1_a35
  have Zn := Nat.le_trans Zn (Nat.le_of_eq W36.size.symm)
  have A_b34 := A_b34.other W36 ne_b34_a35
  have A_a35 := B36
  have Kp := Kp.wr W36 (Or.inr sz_a35)
  refine g_iincL C S (1 : Int32) (1 : Int32) dw_38 (pc' := 41) rfl rfl (by decide) rfl (L' := #[.val (.ref a1), .val (.ref a2), .val (.ref a3), .val (.ref b34), .val (.ref a35), .val (.int (1 : Int32))]) rfl ?_
  refine g_goto C S dw_41 (pc' := 15) (by decide) (by decide) ?_
  refine g_iload C S dw_15 (pc' := 17) rfl rfl ?_
  refine g_aload C S dw_17 (pc' := 19) rfl rfl rfl ?_
  refine g_arraylength C S (x := (3 : Int32)) dw_19 A_a35 (by decide) (pc' := 20) rfl ?_
  refine g_icmp_ge C S dw_20 (pc' := 44) (pf := 23) (by decide) (by decide) rfl (fun hc20 => absurd (by decide) hc20) (fun hc20 => ?_)
  refine g_aload C S dw_23 (pc' := 25) rfl rfl rfl ?_
  refine g_iload C S dw_25 (pc' := 27) rfl rfl ?_
  refine g_aloadN C S dw_27 (pc' := 28) rfl rfl rfl ?_
  refine g_iload C S dw_28 (pc' := 30) rfl rfl ?_
  refine g_laload C S (i := 1) (v := (.long q1)) dw_30 A_a1 (by decide) (by decide) hq1 (pc' := 31) rfl ?_
  refine g_l2d C S dw_31 (pc' := 32) rfl ?_
  refine g_aloadN C S dw_32 (pc' := 33) rfl rfl rfl ?_
  refine g_iload C S dw_33 (pc' := 35) rfl rfl ?_
  refine g_daload C S (i := 1) (v := (.double (FP.ddiv t1 (FP.l2d c1)))) dw_35 A_b34 (by decide) (by decide) hs1 (pc' := 36) rfl ?_
  refine g_dmul C S dw_36 (pc' := 37) rfl (nn_of (Jvm.Free.Fl.dmul_mag (Ka := 1088) (Kb := 1057) (Jvm.Free.Fl.l2d_mag _) (ddiv_mag (K := 1056) (L := 1023) m1 (l2d_big (own_nz s1)) (by decide) (by decide)) (by decide) (by decide)) (by decide)) ?_
  refine g_dastore C S (i := 1) dw_37 A_a35 (by decide) (by decide) ge_a35 (pc' := 38) rfl (fun T37 h37 S W37 B37 => ?_)
  have A_a1 := A_a1.other W37 ne_a1_a35
  have Zn := Nat.le_trans Zn (Nat.le_of_eq W37.size.symm)
  have A_b34 := A_b34.other W37 ne_b34_a35
  have A_a35 := B37
  have Kp := Kp.wr W37 (Or.inr sz_a35)
  refine g_iincL C S (1 : Int32) (2 : Int32) dw_38 (pc' := 41) rfl rfl (by decide) rfl (L' := #[.val (.ref a1), .val (.ref a2), .val (.ref a3), .val (.ref b34), .val (.ref a35), .val (.int (2 : Int32))]) rfl ?_
  refine g_goto C S dw_41 (pc' := 15) (by decide) (by decide) ?_
  refine g_iload C S dw_15 (pc' := 17) rfl rfl ?_
  refine g_aload C S dw_17 (pc' := 19) rfl rfl rfl ?_
  refine g_arraylength C S (x := (3 : Int32)) dw_19 A_a35 (by decide) (pc' := 20) rfl ?_
  refine g_icmp_ge C S dw_20 (pc' := 44) (pf := 23) (by decide) (by decide) rfl (fun hc20 => absurd (by decide) hc20) (fun hc20 => ?_)
  refine g_aload C S dw_23 (pc' := 25) rfl rfl rfl ?_
  refine g_iload C S dw_25 (pc' := 27) rfl rfl ?_
  refine g_aloadN C S dw_27 (pc' := 28) rfl rfl rfl ?_
  refine g_iload C S dw_28 (pc' := 30) rfl rfl ?_
  refine g_laload C S (i := 2) (v := (.long q2)) dw_30 A_a1 (by decide) (by decide) hq2 (pc' := 31) rfl ?_
  refine g_l2d C S dw_31 (pc' := 32) rfl ?_
  refine g_aloadN C S dw_32 (pc' := 33) rfl rfl rfl ?_
  refine g_iload C S dw_33 (pc' := 35) rfl rfl ?_
  refine g_daload C S (i := 2) (v := (.double (FP.ddiv (FP.dadd (FP.dadd FP.dconst0 (FP.ddiv t0 (FP.l2d c0))) (FP.ddiv t1 (FP.l2d c1))) (FP.i2d (((0 : Int32) + (1 : Int32)) + (1 : Int32)))))) dw_35 A_b34 (by decide) (by decide) hs2 (pc' := 36) rfl ?_
  refine g_dmul C S dw_36 (pc' := 37) rfl (nn_of (Jvm.Free.Fl.dmul_mag (Ka := 1088) (Kb := 1062) (Jvm.Free.Fl.l2d_mag _) (ddiv_mag (K := 1061) (L := 1023) (Jvm.Free.Fl.dadd_mag (K := 1059) (Jvm.Free.Fl.Mag64.mono (Jvm.Free.Fl.dadd_mag (K := 1057) (Jvm.Free.Fl.Mag64.mono own_mag0 (by decide)) (Jvm.Free.Fl.Mag64.mono (ddiv_mag (K := 1056) (L := 1023) m0 (l2d_big (own_nz s0)) (by decide) (by decide)) (by decide)) (by decide)) (by decide)) (Jvm.Free.Fl.Mag64.mono (ddiv_mag (K := 1056) (L := 1023) m1 (l2d_big (own_nz s1)) (by decide) (by decide)) (by decide)) (by decide)) (own_i2d (by decide)) (by decide) (by decide)) (by decide) (by decide)) (by decide)) ?_
  refine g_dastore C S (i := 2) dw_37 A_a35 (by decide) (by decide) ge_a35 (pc' := 38) rfl (fun T38 h38 S W38 B38 => ?_)
  have A_a1 := A_a1.other W38 ne_a1_a35
  have Zn := Nat.le_trans Zn (Nat.le_of_eq W38.size.symm)
  have A_b34 := A_b34.other W38 ne_b34_a35
  have A_a35 := B38
  have Kp := Kp.wr W38 (Or.inr sz_a35)
  refine g_iincL C S (1 : Int32) (3 : Int32) dw_38 (pc' := 41) rfl rfl (by decide) rfl (L' := #[.val (.ref a1), .val (.ref a2), .val (.ref a3), .val (.ref b34), .val (.ref a35), .val (.int (3 : Int32))]) rfl ?_
  refine g_goto C S dw_41 (pc' := 15) (by decide) (by decide) ?_
  refine g_iload C S dw_15 (pc' := 17) rfl rfl ?_
  refine g_aload C S dw_17 (pc' := 19) rfl rfl rfl ?_
  refine g_arraylength C S (x := (3 : Int32)) dw_19 A_a35 (by decide) (pc' := 20) rfl ?_
  refine g_icmp_ge C S dw_20 (pc' := 44) (pf := 23) (by decide) (by decide) rfl (fun hc20 => ?_) (fun hc20 => absurd hc20 (by decide))
  refine g_aload C S dw_44 (pc' := 46) rfl rfl rfl ?_
  exact g_retA C S dw_46 rfl rfl rfl (by decide) (by decide) (⟨a35, _, rfl, ge_a35, sz_a35, A_a35, rfl, rfl, rfl⟩)
set_option maxRecDepth 65536 in
set_option maxHeartbeats 40000000 in
theorem c_st101 (l : Launch) (Z : State) (a0 : Array Value) (hw : ∀ d ∈ tables_1, d.before a0 Z = true) (a1 : Addr) (a2 : Addr) (h0 : Heap) (n0 : Nat) (c0 c1 c2 : Int64) (t0 t1 t2 : UInt64) (fc ft : Nat → Value) (m0 : Jvm.Free.Fl.Mag64 1056 t0) (m1 : Jvm.Free.Fl.Mag64 1056 t1) (m2 : Jvm.Free.Fl.Mag64 1056 t2) (hc0 : fc 0 = .long c0) (hc1 : fc 1 = .long c1) (hc2 : fc 2 = .long c2) (ht0 : ft 0 = .double t0) (ht1 : ft 1 = .double t1) (ht2 : ft 2 = .double t2) (s0 : (0 : Int64) < c0) (s1 : ¬ (0 : Int64) < c1) (s2 : (0 : Int64) < c2) (Zn : n0 ≤ h0.size) (A_a1 : Ary Z h0 a1 .long 3 fc) (A_a2 : Ary Z h0 a2 .double 3 ft) :
    Con l Z (⟨"com/example/tuned_conveyor/tunedconveyor/Allocation", "serviceTimes", "([J[D)[D"⟩ : MethodName) prog_1_method_18_code 9 (some (.array .double)) ({ frames := 0, cells := 1, slots := 3, locals := 0 } : Room) #[(.ref a1), (.ref a2)] h0 n0 (fun v h => ∃ (b : Addr) (f : Nat → Value), v = some (.ref b) ∧ n0 ≤ b ∧ h0.size ≤ b ∧ Keep h0 h [] ∧ Ary Z h b .double 3 f ∧ f 0 = .double (FP.ddiv t0 (FP.l2d c0)) ∧ f 1 = .double (FP.ddiv (FP.dadd (FP.dadd FP.dconst0 (FP.ddiv t0 (FP.l2d c0))) (FP.ddiv t2 (FP.l2d c2))) (FP.i2d (((0 : Int32) + (1 : Int32)) + (1 : Int32)))) ∧ f 2 = .double (FP.ddiv t2 (FP.l2d c2))) := by
  refine Con.of (plainFor_of_name (by first | (simp [plainName, overriddenIn]; done) | decide +kernel)) (L0 := #[.val (.ref a1), .val (.ref a2), .unset, .unset, .unset, .unset, .unset, .unset, .unset]) (fun m => by first | (simp [entryFrame, mkF, argsToLocals, Value.category]; done) | rfl) ?_
  intro p e s m below meth c T C S
  have Kp := Keep.refl h0 []
  refine g_dconst0 C S ds_0 (pc' := 1) rfl ?_
  refine g_dstoreN C S ds_1 (pc' := 2) rfl (L' := #[.val (.ref a1), .val (.ref a2), .val (.double FP.dconst0), .second, .unset, .unset, .unset, .unset, .unset]) rfl ?_
  refine g_iconst C S (0 : Int32) ds_2 (pc' := 3) rfl rfl ?_
  refine g_istore C S ds_3 (pc' := 5) rfl (L' := #[.val (.ref a1), .val (.ref a2), .val (.double FP.dconst0), .second, .val (.int (0 : Int32)), .unset, .unset, .unset, .unset]) rfl ?_
  refine g_iconst C S (0 : Int32) ds_5 (pc' := 6) rfl rfl ?_
  refine g_istore C S ds_6 (pc' := 8) rfl (L' := #[.val (.ref a1), .val (.ref a2), .val (.double FP.dconst0), .second, .val (.int (0 : Int32)), .val (.int (0 : Int32)), .unset, .unset, .unset]) rfl ?_
  refine g_iload C S ds_8 (pc' := 10) rfl rfl ?_
  refine g_aloadN C S ds_10 (pc' := 11) rfl rfl rfl ?_
  refine g_arraylength C S (x := (3 : Int32)) ds_11 A_a1 (by decide) (pc' := 12) rfl ?_
  refine g_icmp_ge C S ds_12 (pc' := 46) (pf := 15) (by decide) (by decide) rfl (fun hc12 => absurd (by decide) hc12) (fun hc12 => ?_)
  refine g_aloadN C S ds_15 (pc' := 16) rfl rfl rfl ?_
  refine g_iload C S ds_16 (pc' := 18) rfl rfl ?_
  refine g_laload C S (i := 0) (v := (.long c0)) ds_18 A_a1 (by decide) (by decide) hc0 (pc' := 19) rfl ?_
  refine g_lconst C S (0 : Int64) ds_19 (pc' := 20) rfl rfl ?_
  refine g_lcmp C S ds_20 (pc' := 21) rfl ?_
  refine g_lif_le C S ds_21 (pc' := 40) (pf := 24) (by decide) (by decide) rfl (fun hc21 => absurd s0 hc21) (fun hc21 => ?_)
  refine g_dloadN C S ds_24 (pc' := 25) rfl rfl ?_
  refine g_aloadN C S ds_25 (pc' := 26) rfl rfl rfl ?_
  refine g_iload C S ds_26 (pc' := 28) rfl rfl ?_
  refine g_daload C S (i := 0) (v := (.double t0)) ds_28 A_a2 (by decide) (by decide) ht0 (pc' := 29) rfl ?_
  refine g_aloadN C S ds_29 (pc' := 30) rfl rfl rfl ?_
  refine g_iload C S ds_30 (pc' := 32) rfl rfl ?_
  refine g_laload C S (i := 0) (v := (.long c0)) ds_32 A_a1 (by decide) (by decide) hc0 (pc' := 33) rfl ?_
  refine g_l2d C S ds_33 (pc' := 34) rfl ?_
  refine g_ddiv C S ds_34 (pc' := 35) rfl (nn_of (ddiv_mag (K := 1056) (L := 1023) m0 (l2d_big (own_nz s0)) (by decide) (by decide)) (by decide)) ?_
  refine g_dadd C S ds_35 (pc' := 36) rfl (nn_of (Jvm.Free.Fl.dadd_mag (K := 1057) (Jvm.Free.Fl.Mag64.mono own_mag0 (by decide)) (Jvm.Free.Fl.Mag64.mono (ddiv_mag (K := 1056) (L := 1023) m0 (l2d_big (own_nz s0)) (by decide) (by decide)) (by decide)) (by decide)) (by decide)) ?_
  refine g_dstoreN C S ds_36 (pc' := 37) rfl (L' := #[.val (.ref a1), .val (.ref a2), .val (.double (FP.dadd FP.dconst0 (FP.ddiv t0 (FP.l2d c0)))), .second, .val (.int (0 : Int32)), .val (.int (0 : Int32)), .unset, .unset, .unset]) rfl ?_
  refine g_iincL C S (1 : Int32) (1 : Int32) ds_37 (pc' := 40) rfl rfl (by decide) rfl (L' := #[.val (.ref a1), .val (.ref a2), .val (.double (FP.dadd FP.dconst0 (FP.ddiv t0 (FP.l2d c0)))), .second, .val (.int (1 : Int32)), .val (.int (0 : Int32)), .unset, .unset, .unset]) rfl ?_
  refine g_iincL C S (1 : Int32) (1 : Int32) ds_40 (pc' := 43) rfl rfl (by decide) rfl (L' := #[.val (.ref a1), .val (.ref a2), .val (.double (FP.dadd FP.dconst0 (FP.ddiv t0 (FP.l2d c0)))), .second, .val (.int (1 : Int32)), .val (.int (1 : Int32)), .unset, .unset, .unset]) rfl ?_
  refine g_goto C S ds_43 (pc' := 8) (by decide) (by decide) ?_
  refine g_iload C S ds_8 (pc' := 10) rfl rfl ?_
  refine g_aloadN C S ds_10 (pc' := 11) rfl rfl rfl ?_
  refine g_arraylength C S (x := (3 : Int32)) ds_11 A_a1 (by decide) (pc' := 12) rfl ?_
  refine g_icmp_ge C S ds_12 (pc' := 46) (pf := 15) (by decide) (by decide) rfl (fun hc12 => absurd (by decide) hc12) (fun hc12 => ?_)
  refine g_aloadN C S ds_15 (pc' := 16) rfl rfl rfl ?_
  refine g_iload C S ds_16 (pc' := 18) rfl rfl ?_
  refine g_laload C S (i := 1) (v := (.long c1)) ds_18 A_a1 (by decide) (by decide) hc1 (pc' := 19) rfl ?_
  refine g_lconst C S (0 : Int64) ds_19 (pc' := 20) rfl rfl ?_
  refine g_lcmp C S ds_20 (pc' := 21) rfl ?_
  refine g_lif_le C S ds_21 (pc' := 40) (pf := 24) (by decide) (by decide) rfl (fun hc21 => ?_) (fun hc21 => absurd hc21 s1)
  refine g_iincL C S (1 : Int32) (2 : Int32) ds_40 (pc' := 43) rfl rfl (by decide) rfl (L' := #[.val (.ref a1), .val (.ref a2), .val (.double (FP.dadd FP.dconst0 (FP.ddiv t0 (FP.l2d c0)))), .second, .val (.int (1 : Int32)), .val (.int (2 : Int32)), .unset, .unset, .unset]) rfl ?_
  refine g_goto C S ds_43 (pc' := 8) (by decide) (by decide) ?_
  refine g_iload C S ds_8 (pc' := 10) rfl rfl ?_
  refine g_aloadN C S ds_10 (pc' := 11) rfl rfl rfl ?_
  refine g_arraylength C S (x := (3 : Int32)) ds_11 A_a1 (by decide) (pc' := 12) rfl ?_
  refine g_icmp_ge C S ds_12 (pc' := 46) (pf := 15) (by decide) (by decide) rfl (fun hc12 => absurd (by decide) hc12) (fun hc12 => ?_)
  refine g_aloadN C S ds_15 (pc' := 16) rfl rfl rfl ?_
  refine g_iload C S ds_16 (pc' := 18) rfl rfl ?_
  refine g_laload C S (i := 2) (v := (.long c2)) ds_18 A_a1 (by decide) (by decide) hc2 (pc' := 19) rfl ?_
  refine g_lconst C S (0 : Int64) ds_19 (pc' := 20) rfl rfl ?_
  refine g_lcmp C S ds_20 (pc' := 21) rfl ?_
  refine g_lif_le C S ds_21 (pc' := 40) (pf := 24) (by decide) (by decide) rfl (fun hc21 => absurd s2 hc21) (fun hc21 => ?_)
  refine g_dloadN C S ds_24 (pc' := 25) rfl rfl ?_
  refine g_aloadN C S ds_25 (pc' := 26) rfl rfl rfl ?_
  refine g_iload C S ds_26 (pc' := 28) rfl rfl ?_
  refine g_daload C S (i := 2) (v := (.double t2)) ds_28 A_a2 (by decide) (by decide) ht2 (pc' := 29) rfl ?_
  refine g_aloadN C S ds_29 (pc' := 30) rfl rfl rfl ?_
  refine g_iload C S ds_30 (pc' := 32) rfl rfl ?_
  refine g_laload C S (i := 2) (v := (.long c2)) ds_32 A_a1 (by decide) (by decide) hc2 (pc' := 33) rfl ?_
  refine g_l2d C S ds_33 (pc' := 34) rfl ?_
  refine g_ddiv C S ds_34 (pc' := 35) rfl (nn_of (ddiv_mag (K := 1056) (L := 1023) m2 (l2d_big (own_nz s2)) (by decide) (by decide)) (by decide)) ?_
  refine g_dadd C S ds_35 (pc' := 36) rfl (nn_of (Jvm.Free.Fl.dadd_mag (K := 1059) (Jvm.Free.Fl.Mag64.mono (Jvm.Free.Fl.dadd_mag (K := 1057) (Jvm.Free.Fl.Mag64.mono own_mag0 (by decide)) (Jvm.Free.Fl.Mag64.mono (ddiv_mag (K := 1056) (L := 1023) m0 (l2d_big (own_nz s0)) (by decide) (by decide)) (by decide)) (by decide)) (by decide)) (Jvm.Free.Fl.Mag64.mono (ddiv_mag (K := 1056) (L := 1023) m2 (l2d_big (own_nz s2)) (by decide) (by decide)) (by decide)) (by decide)) (by decide)) ?_
  refine g_dstoreN C S ds_36 (pc' := 37) rfl (L' := #[.val (.ref a1), .val (.ref a2), .val (.double (FP.dadd (FP.dadd FP.dconst0 (FP.ddiv t0 (FP.l2d c0))) (FP.ddiv t2 (FP.l2d c2)))), .second, .val (.int (1 : Int32)), .val (.int (2 : Int32)), .unset, .unset, .unset]) rfl ?_
  refine g_iincL C S (1 : Int32) (2 : Int32) ds_37 (pc' := 40) rfl rfl (by decide) rfl (L' := #[.val (.ref a1), .val (.ref a2), .val (.double (FP.dadd (FP.dadd FP.dconst0 (FP.ddiv t0 (FP.l2d c0))) (FP.ddiv t2 (FP.l2d c2)))), .second, .val (.int (2 : Int32)), .val (.int (2 : Int32)), .unset, .unset, .unset]) rfl ?_
  refine g_iincL C S (1 : Int32) (3 : Int32) ds_40 (pc' := 43) rfl rfl (by decide) rfl (L' := #[.val (.ref a1), .val (.ref a2), .val (.double (FP.dadd (FP.dadd FP.dconst0 (FP.ddiv t0 (FP.l2d c0))) (FP.ddiv t2 (FP.l2d c2)))), .second, .val (.int (2 : Int32)), .val (.int (3 : Int32)), .unset, .unset, .unset]) rfl ?_
  refine g_goto C S ds_43 (pc' := 8) (by decide) (by decide) ?_
  refine g_iload C S ds_8 (pc' := 10) rfl rfl ?_
  refine g_aloadN C S ds_10 (pc' := 11) rfl rfl rfl ?_
  refine g_arraylength C S (x := (3 : Int32)) ds_11 A_a1 (by decide) (pc' := 12) rfl ?_
  refine g_icmp_ge C S ds_12 (pc' := 46) (pf := 15) (by decide) (by decide) rfl (fun hc12 => ?_) (fun hc12 => absurd hc12 (by decide))
  refine g_iload C S ds_46 (pc' := 48) rfl rfl ?_
  refine g_if_ne C S ds_48 (pc' := 55) (pf := 51) (by decide) (by decide) rfl (fun hc48 => ?_) (fun hc48 => absurd hc48 (by decide))
  refine g_dloadN C S ds_55 (pc' := 56) rfl rfl ?_
  refine g_iload C S ds_56 (pc' := 58) rfl rfl ?_
  refine g_i2d C S ds_58 (pc' := 59) rfl ?_
  refine g_ddiv C S ds_59 (pc' := 60) rfl (nn_of (ddiv_mag (K := 1061) (L := 1023) (Jvm.Free.Fl.dadd_mag (K := 1059) (Jvm.Free.Fl.Mag64.mono (Jvm.Free.Fl.dadd_mag (K := 1057) (Jvm.Free.Fl.Mag64.mono own_mag0 (by decide)) (Jvm.Free.Fl.Mag64.mono (ddiv_mag (K := 1056) (L := 1023) m0 (l2d_big (own_nz s0)) (by decide) (by decide)) (by decide)) (by decide)) (by decide)) (Jvm.Free.Fl.Mag64.mono (ddiv_mag (K := 1056) (L := 1023) m2 (l2d_big (own_nz s2)) (by decide) (by decide)) (by decide)) (by decide)) (own_i2d (by decide)) (by decide) (by decide)) (by decide)) ?_
  refine g_dstore C S ds_60 (pc' := 62) rfl (L' := #[.val (.ref a1), .val (.ref a2), .val (.double (FP.dadd (FP.dadd FP.dconst0 (FP.ddiv t0 (FP.l2d c0))) (FP.ddiv t2 (FP.l2d c2)))), .second, .val (.int (2 : Int32)), .val (.double (FP.ddiv (FP.dadd (FP.dadd FP.dconst0 (FP.ddiv t0 (FP.l2d c0))) (FP.ddiv t2 (FP.l2d c2))) (FP.i2d (2 : Int32)))), .second, .unset, .unset]) rfl ?_
  refine g_aloadN C S ds_62 (pc' := 63) rfl rfl rfl ?_
  refine g_arraylength C S (x := (3 : Int32)) ds_63 A_a1 (by decide) (pc' := 64) rfl ?_
  refine g_newarray C S (N := 3) (cap := 3) ds_64 (hw _ (List.mem_of_getElem? (i := 4) rfl)) (by decide) (by decide) (by decide) (by decide) (by decide) (pc' := 66) rfl (fun T39 h39 a39 S g39 E39 A_a39 => ?_)
  have ne_a1_a39 : a1 ≠ a39 := ne_new g39 A_a1.lt
  have ne_a2_a39 : a2 ≠ a39 := ne_new g39 A_a2.lt
  have sz_a39 : h0.size ≤ a39 := ge_of g39 Kp.1
  have ge_a39 : n0 ≤ a39 := ge_of g39 Zn
  have Kp := Kp.ext E39
  have A_a1 := A_a1.ext E39
  have A_a2 := A_a2.ext E39
  have Zn := Nat.le_trans Zn E39.1
  have A_a39 : Ary Z h39 a39 .double 3 (fun _ => (.double 0)) := A_a39
  refine g_astore C S ds_66 (pc' := 68) rfl rfl (L' := #[.val (.ref a1), .val (.ref a2), .val (.double (FP.dadd (FP.dadd FP.dconst0 (FP.ddiv t0 (FP.l2d c0))) (FP.ddiv t2 (FP.l2d c2)))), .second, .val (.int (2 : Int32)), .val (.double (FP.ddiv (FP.dadd (FP.dadd FP.dconst0 (FP.ddiv t0 (FP.l2d c0))) (FP.ddiv t2 (FP.l2d c2))) (FP.i2d (2 : Int32)))), .second, .val (.ref a39), .unset]) rfl ?_
  refine g_iconst C S (0 : Int32) ds_68 (pc' := 69) rfl rfl ?_
  refine g_istore C S ds_69 (pc' := 71) rfl (L' := #[.val (.ref a1), .val (.ref a2), .val (.double (FP.dadd (FP.dadd FP.dconst0 (FP.ddiv t0 (FP.l2d c0))) (FP.ddiv t2 (FP.l2d c2)))), .second, .val (.int (2 : Int32)), .val (.double (FP.ddiv (FP.dadd (FP.dadd FP.dconst0 (FP.ddiv t0 (FP.l2d c0))) (FP.ddiv t2 (FP.l2d c2))) (FP.i2d (2 : Int32)))), .second, .val (.ref a39), .val (.int (0 : Int32))]) rfl ?_
  refine g_iload C S ds_71 (pc' := 73) rfl rfl ?_
  refine g_aload C S ds_73 (pc' := 75) rfl rfl rfl ?_
  refine g_arraylength C S (x := (3 : Int32)) ds_75 A_a39 (by decide) (pc' := 76) rfl ?_
  refine g_icmp_ge C S ds_76 (pc' := 114) (pf := 79) (by decide) (by decide) rfl (fun hc76 => absurd (by decide) hc76) (fun hc76 => ?_)
  refine g_aload C S ds_79 (pc' := 81) rfl rfl rfl ?_
  refine g_iload C S ds_81 (pc' := 83) rfl rfl ?_
  refine g_aloadN C S ds_83 (pc' := 84) rfl rfl rfl ?_
  refine g_iload C S ds_84 (pc' := 86) rfl rfl ?_
  refine g_laload C S (i := 0) (v := (.long c0)) ds_86 A_a1 (by decide) (by decide) hc0 (pc' := 87) rfl ?_
  refine g_lconst C S (0 : Int64) ds_87 (pc' := 88) rfl rfl ?_
  refine g_lcmp C S ds_88 (pc' := 89) rfl ?_
  refine g_lif_le C S ds_89 (pc' := 105) (pf := 92) (by decide) (by decide) rfl (fun hc89 => absurd s0 hc89) (fun hc89 => ?_)
  refine g_aloadN C S ds_92 (pc' := 93) rfl rfl rfl ?_
  refine g_iload C S ds_93 (pc' := 95) rfl rfl ?_
  refine g_daload C S (i := 0) (v := (.double t0)) ds_95 A_a2 (by decide) (by decide) ht0 (pc' := 96) rfl ?_
  refine g_aloadN C S ds_96 (pc' := 97) rfl rfl rfl ?_
  refine g_iload C S ds_97 (pc' := 99) rfl rfl ?_
  refine g_laload C S (i := 0) (v := (.long c0)) ds_99 A_a1 (by decide) (by decide) hc0 (pc' := 100) rfl ?_
  refine g_l2d C S ds_100 (pc' := 101) rfl ?_
  refine g_ddiv C S ds_101 (pc' := 102) rfl (nn_of (ddiv_mag (K := 1056) (L := 1023) m0 (l2d_big (own_nz s0)) (by decide) (by decide)) (by decide)) ?_
  refine g_goto C S ds_102 (pc' := 107) (by decide) (by decide) ?_
  refine g_dastore C S (i := 0) ds_107 A_a39 (by decide) (by decide) ge_a39 (pc' := 108) rfl (fun T40 h40 S W40 B40 => ?_)
  have A_a1 := A_a1.other W40 ne_a1_a39
  have A_a2 := A_a2.other W40 ne_a2_a39
  have Zn := Nat.le_trans Zn (Nat.le_of_eq W40.size.symm)
  have A_a39 := B40
  have Kp := Kp.wr W40 (Or.inr sz_a39)
  refine g_iincL C S (1 : Int32) (1 : Int32) ds_108 (pc' := 111) rfl rfl (by decide) rfl (L' := #[.val (.ref a1), .val (.ref a2), .val (.double (FP.dadd (FP.dadd FP.dconst0 (FP.ddiv t0 (FP.l2d c0))) (FP.ddiv t2 (FP.l2d c2)))), .second, .val (.int (2 : Int32)), .val (.double (FP.ddiv (FP.dadd (FP.dadd FP.dconst0 (FP.ddiv t0 (FP.l2d c0))) (FP.ddiv t2 (FP.l2d c2))) (FP.i2d (2 : Int32)))), .second, .val (.ref a39), .val (.int (1 : Int32))]) rfl ?_
  refine g_goto C S ds_111 (pc' := 71) (by decide) (by decide) ?_
  refine g_iload C S ds_71 (pc' := 73) rfl rfl ?_
  refine g_aload C S ds_73 (pc' := 75) rfl rfl rfl ?_
  refine g_arraylength C S (x := (3 : Int32)) ds_75 A_a39 (by decide) (pc' := 76) rfl ?_
  refine g_icmp_ge C S ds_76 (pc' := 114) (pf := 79) (by decide) (by decide) rfl (fun hc76 => absurd (by decide) hc76) (fun hc76 => ?_)
  refine g_aload C S ds_79 (pc' := 81) rfl rfl rfl ?_
  refine g_iload C S ds_81 (pc' := 83) rfl rfl ?_
  refine g_aloadN C S ds_83 (pc' := 84) rfl rfl rfl ?_
  refine g_iload C S ds_84 (pc' := 86) rfl rfl ?_
  refine g_laload C S (i := 1) (v := (.long c1)) ds_86 A_a1 (by decide) (by decide) hc1 (pc' := 87) rfl ?_
  refine g_lconst C S (0 : Int64) ds_87 (pc' := 88) rfl rfl ?_
  refine g_lcmp C S ds_88 (pc' := 89) rfl ?_
  refine g_lif_le C S ds_89 (pc' := 105) (pf := 92) (by decide) (by decide) rfl (fun hc89 => ?_) (fun hc89 => absurd hc89 s1)
  refine g_dload C S ds_105 (pc' := 107) rfl rfl ?_
  refine g_dastore C S (i := 1) ds_107 A_a39 (by decide) (by decide) ge_a39 (pc' := 108) rfl (fun T41 h41 S W41 B41 => ?_)
  have A_a1 := A_a1.other W41 ne_a1_a39
  have A_a2 := A_a2.other W41 ne_a2_a39
  have Zn := Nat.le_trans Zn (Nat.le_of_eq W41.size.symm)
  have A_a39 := B41
  have Kp := Kp.wr W41 (Or.inr sz_a39)
  refine g_iincL C S (1 : Int32) (2 : Int32) ds_108 (pc' := 111) rfl rfl (by decide) rfl (L' := #[.val (.ref a1), .val (.ref a2), .val (.double (FP.dadd (FP.dadd FP.dconst0 (FP.ddiv t0 (FP.l2d c0))) (FP.ddiv t2 (FP.l2d c2)))), .second, .val (.int (2 : Int32)), .val (.double (FP.ddiv (FP.dadd (FP.dadd FP.dconst0 (FP.ddiv t0 (FP.l2d c0))) (FP.ddiv t2 (FP.l2d c2))) (FP.i2d (2 : Int32)))), .second, .val (.ref a39), .val (.int (2 : Int32))]) rfl ?_
  refine g_goto C S ds_111 (pc' := 71) (by decide) (by decide) ?_
  refine g_iload C S ds_71 (pc' := 73) rfl rfl ?_
  refine g_aload C S ds_73 (pc' := 75) rfl rfl rfl ?_
  refine g_arraylength C S (x := (3 : Int32)) ds_75 A_a39 (by decide) (pc' := 76) rfl ?_
  refine g_icmp_ge C S ds_76 (pc' := 114) (pf := 79) (by decide) (by decide) rfl (fun hc76 => absurd (by decide) hc76) (fun hc76 => ?_)
  refine g_aload C S ds_79 (pc' := 81) rfl rfl rfl ?_
  refine g_iload C S ds_81 (pc' := 83) rfl rfl ?_
  refine g_aloadN C S ds_83 (pc' := 84) rfl rfl rfl ?_
  refine g_iload C S ds_84 (pc' := 86) rfl rfl ?_
  refine g_laload C S (i := 2) (v := (.long c2)) ds_86 A_a1 (by decide) (by decide) hc2 (pc' := 87) rfl ?_
  refine g_lconst C S (0 : Int64) ds_87 (pc' := 88) rfl rfl ?_
  refine g_lcmp C S ds_88 (pc' := 89) rfl ?_
  refine g_lif_le C S ds_89 (pc' := 105) (pf := 92) (by decide) (by decide) rfl (fun hc89 => absurd s2 hc89) (fun hc89 => ?_)
  refine g_aloadN C S ds_92 (pc' := 93) rfl rfl rfl ?_
  refine g_iload C S ds_93 (pc' := 95) rfl rfl ?_
  refine g_daload C S (i := 2) (v := (.double t2)) ds_95 A_a2 (by decide) (by decide) ht2 (pc' := 96) rfl ?_
  refine g_aloadN C S ds_96 (pc' := 97) rfl rfl rfl ?_
  refine g_iload C S ds_97 (pc' := 99) rfl rfl ?_
  refine g_laload C S (i := 2) (v := (.long c2)) ds_99 A_a1 (by decide) (by decide) hc2 (pc' := 100) rfl ?_
  refine g_l2d C S ds_100 (pc' := 101) rfl ?_
  refine g_ddiv C S ds_101 (pc' := 102) rfl (nn_of (ddiv_mag (K := 1056) (L := 1023) m2 (l2d_big (own_nz s2)) (by decide) (by decide)) (by decide)) ?_
  refine g_goto C S ds_102 (pc' := 107) (by decide) (by decide) ?_
  refine g_dastore C S (i := 2) ds_107 A_a39 (by decide) (by decide) ge_a39 (pc' := 108) rfl (fun T42 h42 S W42 B42 => ?_)
  have A_a1 := A_a1.other W42 ne_a1_a39
  have A_a2 := A_a2.other W42 ne_a2_a39
  have Zn := Nat.le_trans Zn (Nat.le_of_eq W42.size.symm)
  have A_a39 := B42
  have Kp := Kp.wr W42 (Or.inr sz_a39)
  refine g_iincL C S (1 : Int32) (3 : Int32) ds_108 (pc' := 111) rfl rfl (by decide) rfl (L' := #[.val (.ref a1), .val (.ref a2), .val (.double (FP.dadd (FP.dadd FP.dconst0 (FP.ddiv t0 (FP.l2d c0))) (FP.ddiv t2 (FP.l2d c2)))), .second, .val (.int (2 : Int32)), .val (.double (FP.ddiv (FP.dadd (FP.dadd FP.dconst0 (FP.ddiv t0 (FP.l2d c0))) (FP.ddiv t2 (FP.l2d c2))) (FP.i2d (2 : Int32)))), .second, .val (.ref a39), .val (.int (3 : Int32))]) rfl ?_
  refine g_goto C S ds_111 (pc' := 71) (by decide) (by decide) ?_
  refine g_iload C S ds_71 (pc' := 73) rfl rfl ?_
  refine g_aload C S ds_73 (pc' := 75) rfl rfl rfl ?_
  refine g_arraylength C S (x := (3 : Int32)) ds_75 A_a39 (by decide) (pc' := 76) rfl ?_
  refine g_icmp_ge C S ds_76 (pc' := 114) (pf := 79) (by decide) (by decide) rfl (fun hc76 => ?_) (fun hc76 => absurd hc76 (by decide))
  refine g_aload C S ds_114 (pc' := 116) rfl rfl rfl ?_
  exact g_retA C S ds_116 rfl rfl rfl (by decide) (by decide) (⟨a39, _, rfl, ge_a39, sz_a39, Kp, A_a39, rfl, rfl, rfl⟩)
set_option maxRecDepth 65536 in
set_option maxHeartbeats 40000000 in
theorem c_wt101 (l : Launch) (Z : State) (a0 : Array Value) (hw : ∀ d ∈ tables_1, d.before a0 Z = true) (a1 : Addr) (a2 : Addr) (a3 : Addr) (h0 : Heap) (n0 : Nat) (c0 c1 c2 : Int64) (t0 t1 t2 : UInt64) (fc ft : Nat → Value) (m0 : Jvm.Free.Fl.Mag64 1056 t0) (m1 : Jvm.Free.Fl.Mag64 1056 t1) (m2 : Jvm.Free.Fl.Mag64 1056 t2) (hc0 : fc 0 = .long c0) (hc1 : fc 1 = .long c1) (hc2 : fc 2 = .long c2) (ht0 : ft 0 = .double t0) (ht1 : ft 1 = .double t1) (ht2 : ft 2 = .double t2) (q0 q1 q2 : Int64) (fq : Nat → Value) (hq0 : fq 0 = .long q0) (hq1 : fq 1 = .long q1) (hq2 : fq 2 = .long q2) (s0 : (0 : Int64) < c0) (s1 : ¬ (0 : Int64) < c1) (s2 : (0 : Int64) < c2) (Zn : n0 ≤ h0.size) (A_a1 : Ary Z h0 a1 .long 3 fq) (A_a2 : Ary Z h0 a2 .long 3 fc) (A_a3 : Ary Z h0 a3 .double 3 ft) :
    Con l Z (⟨"com/example/tuned_conveyor/tunedconveyor/Allocation", "weights", "([J[J[D)[D"⟩ : MethodName) prog_1_method_17_code 6 (some (.array .double)) ({ frames := 1, cells := 2, slots := 6, locals := 20 } : Room) #[(.ref a1), (.ref a2), (.ref a3)] h0 n0 (fun v h => ∃ (b : Addr) (f : Nat → Value), v = some (.ref b) ∧ n0 ≤ b ∧ h0.size ≤ b ∧ Ary Z h b .double 3 f ∧ f 0 = .double (FP.dmul (FP.l2d q0) (FP.ddiv t0 (FP.l2d c0))) ∧ f 1 = .double (FP.dmul (FP.l2d q1) (FP.ddiv (FP.dadd (FP.dadd FP.dconst0 (FP.ddiv t0 (FP.l2d c0))) (FP.ddiv t2 (FP.l2d c2))) (FP.i2d (((0 : Int32) + (1 : Int32)) + (1 : Int32))))) ∧ f 2 = .double (FP.dmul (FP.l2d q2) (FP.ddiv t2 (FP.l2d c2)))) := by
  refine Con.of (plainFor_of_name (by first | (simp [plainName, overriddenIn]; done) | decide +kernel)) (L0 := #[.val (.ref a1), .val (.ref a2), .val (.ref a3), .unset, .unset, .unset]) (fun m => by first | (simp [entryFrame, mkF, argsToLocals, Value.category]; done) | rfl) ?_
  intro p e s m below meth c T C S
  have Kp := Keep.refl h0 []
  have lt_a1 := A_a1.lt
  refine g_aloadN C S dw_0 (pc' := 1) rfl rfl rfl ?_
  refine g_aloadN C S dw_1 (pc' := 2) rfl rfl rfl ?_
  refine g_callS C S (rm := ({ frames := 0, cells := 1, slots := 3, locals := 0 } : Room)) (W := 0) dw_2 (hw _ (List.mem_of_getElem? (i := 9) rfl)) (hw _ (List.mem_of_getElem? (i := 10) rfl)) (hw _ (List.mem_of_getElem? (i := 7) rfl)) (hw _ (List.mem_of_getElem? (i := 11) rfl)) (by decide) (c_st101 l Z a0 hw a2 a3 h0 n0 c0 c1 c2 t0 t1 t2 fc ft m0 m1 m2 hc0 hc1 hc2 ht0 ht1 ht2 s0 s1 s2 Zn A_a2 A_a3) (argsL := [(.ref a2), (.ref a3)]) (r := []) rfl (lenOf pd_0 rfl) rfl (Nat.le_of_eq rfl) (by decide) (by decide) (by decide) (by decide) (pc' := 5) rfl (fun T43 h43 v43 q43 S => ?_)
  obtain ⟨b43, fs, rfl, ge_b43, sz_b43, K43, A_b43, hs0, hs1, hs2⟩ := q43
  have Kp := Kp.trans K43 all0
  have A_a1 := A_a1.keep K43 nin0
  have Zn := Nat.le_trans Zn K43.1
  have ne_a1_b43 : a1 ≠ b43 := Nat.ne_of_lt (Nat.lt_of_lt_of_le lt_a1 sz_b43)
  show Gl p e below s _ n0 _ T43 (mkF m 5 #[.val (.ref a1), .val (.ref a2), .val (.ref a3), .unset, .unset, .unset] [(.ref b43)])
  refine g_astoreN C S dw_5 (pc' := 6) rfl rfl (L' := #[.val (.ref a1), .val (.ref a2), .val (.ref a3), .val (.ref b43), .unset, .unset]) rfl ?_
  refine g_aloadN C S dw_6 (pc' := 7) rfl rfl rfl ?_
  refine g_arraylength C S (x := (3 : Int32)) dw_7 A_b43 (by decide) (pc' := 8) rfl ?_
  refine g_newarray C S (N := 3) (cap := 3) dw_8 (hw _ (List.mem_of_getElem? (i := 4) rfl)) (by decide) (by decide) (by decide) (by decide) (by decide) (pc' := 10) rfl (fun T44 h44 a44 S g44 E44 A_a44 => ?_)
  have ne_a1_a44 : a1 ≠ a44 := ne_new g44 A_a1.lt
  have ne_b43_a44 : b43 ≠ a44 := ne_new g44 A_b43.lt
  have sz_a44 : h0.size ≤ a44 := ge_of g44 Kp.1
  have ge_a44 : n0 ≤ a44 := ge_of g44 Zn
  have Kp := Kp.ext E44
  have A_a1 := A_a1.ext E44
  have Zn := Nat.le_trans Zn E44.1
  have A_b43 := A_b43.ext E44
  have A_a44 : Ary Z h44 a44 .double 3 (fun _ => (.double 0)) := A_a44
  refine g_astore C S dw_10 (pc' := 12) rfl rfl (L' := #[.val (.ref a1), .val (.ref a2), .val (.ref a3), .val (.ref b43), .val (.ref a44), .unset]) rfl ?_
  refine g_iconst C S (0 : Int32) dw_12 (pc' := 13) rfl rfl ?_
  refine g_istore C S dw_13 (pc' := 15) rfl (L' := #[.val (.ref a1), .val (.ref a2), .val (.ref a3), .val (.ref b43), .val (.ref a44), .val (.int (0 : Int32))]) rfl ?_
  refine g_iload C S dw_15 (pc' := 17) rfl rfl ?_
  refine g_aload C S dw_17 (pc' := 19) rfl rfl rfl ?_
  refine g_arraylength C S (x := (3 : Int32)) dw_19 A_a44 (by decide) (pc' := 20) rfl ?_
  refine g_icmp_ge C S dw_20 (pc' := 44) (pf := 23) (by decide) (by decide) rfl (fun hc20 => absurd (by decide) hc20) (fun hc20 => ?_)
  refine g_aload C S dw_23 (pc' := 25) rfl rfl rfl ?_
  refine g_iload C S dw_25 (pc' := 27) rfl rfl ?_
  refine g_aloadN C S dw_27 (pc' := 28) rfl rfl rfl ?_
  refine g_iload C S dw_28 (pc' := 30) rfl rfl ?_
  refine g_laload C S (i := 0) (v := (.long q0)) dw_30 A_a1 (by decide) (by decide) hq0 (pc' := 31) rfl ?_
  refine g_l2d C S dw_31 (pc' := 32) rfl ?_
  refine g_aloadN C S dw_32 (pc' := 33) rfl rfl rfl ?_
  refine g_iload C S dw_33 (pc' := 35) rfl rfl ?_
  refine g_daload C S (i := 0) (v := (.double (FP.ddiv t0 (FP.l2d c0)))) dw_35 A_b43 (by decide) (by decide) hs0 (pc' := 36) rfl ?_
  refine g_dmul C S dw_36 (pc' := 37) rfl (nn_of (Jvm.Free.Fl.dmul_mag (Ka := 1088) (Kb := 1057) (Jvm.Free.Fl.l2d_mag _) (ddiv_mag (K := 1056) (L := 1023) m0 (l2d_big (own_nz s0)) (by decide) (by decide)) (by decide) (by decide)) (by decide)) ?_
  refine g_dastore C S (i := 0) dw_37 A_a44 (by decide) (by decide) ge_a44 (pc' := 38) rfl (fun T45 h45 S W45 B45 => ?_)
  have A_a1 := A_a1.other W45 ne_a1_a44
  have Zn := Nat.le_trans Zn (Nat.le_of_eq W45.size.symm)
  have A_b43 := A_b43.other W45 ne_b43_a44
  have A_a44 := B45
  have Kp := Kp.wr W45 (Or.inr sz_a44)
  refine g_iincL C S (1 : Int32) (1 : Int32) dw_38 (pc' := 41) rfl rfl (by decide) rfl (L' := #[.val (.ref a1), .val (.ref a2), .val (.ref a3), .val (.ref b43), .val (.ref a44), .val (.int (1 : Int32))]) rfl ?_
  refine g_goto C S dw_41 (pc' := 15) (by decide) (by decide) ?_
  refine g_iload C S dw_15 (pc' := 17) rfl rfl ?_
  refine g_aload C S dw_17 (pc' := 19) rfl rfl rfl ?_
  refine g_arraylength C S (x := (3 : Int32)) dw_19 A_a44 (by decide) (pc' := 20) rfl ?_
  refine g_icmp_ge C S dw_20 (pc' := 44) (pf := 23) (by decide) (by decide) rfl (fun hc20 => absurd (by decide) hc20) (fun hc20 => ?_)
  refine g_aload C S dw_23 (pc' := 25) rfl rfl rfl ?_
  refine g_iload C S dw_25 (pc' := 27) rfl rfl ?_
  refine g_aloadN C S dw_27 (pc' := 28) rfl rfl rfl ?_
  refine g_iload C S dw_28 (pc' := 30) rfl rfl ?_
  refine g_laload C S (i := 1) (v := (.long q1)) dw_30 A_a1 (by decide) (by decide) hq1 (pc' := 31) rfl ?_
  refine g_l2d C S dw_31 (pc' := 32) rfl ?_
  refine g_aloadN C S dw_32 (pc' := 33) rfl rfl rfl ?_
  refine g_iload C S dw_33 (pc' := 35) rfl rfl ?_
  refine g_daload C S (i := 1) (v := (.double (FP.ddiv (FP.dadd (FP.dadd FP.dconst0 (FP.ddiv t0 (FP.l2d c0))) (FP.ddiv t2 (FP.l2d c2))) (FP.i2d (((0 : Int32) + (1 : Int32)) + (1 : Int32)))))) dw_35 A_b43 (by decide) (by decide) hs1 (pc' := 36) rfl ?_
  refine g_dmul C S dw_36 (pc' := 37) rfl (nn_of (Jvm.Free.Fl.dmul_mag (Ka := 1088) (Kb := 1062) (Jvm.Free.Fl.l2d_mag _) (ddiv_mag (K := 1061) (L := 1023) (Jvm.Free.Fl.dadd_mag (K := 1059) (Jvm.Free.Fl.Mag64.mono (Jvm.Free.Fl.dadd_mag (K := 1057) (Jvm.Free.Fl.Mag64.mono own_mag0 (by decide)) (Jvm.Free.Fl.Mag64.mono (ddiv_mag (K := 1056) (L := 1023) m0 (l2d_big (own_nz s0)) (by decide) (by decide)) (by decide)) (by decide)) (by decide)) (Jvm.Free.Fl.Mag64.mono (ddiv_mag (K := 1056) (L := 1023) m2 (l2d_big (own_nz s2)) (by decide) (by decide)) (by decide)) (by decide)) (own_i2d (by decide)) (by decide) (by decide)) (by decide) (by decide)) (by decide)) ?_
  refine g_dastore C S (i := 1) dw_37 A_a44 (by decide) (by decide) ge_a44 (pc' := 38) rfl (fun T46 h46 S W46 B46 => ?_)
  have A_a1 := A_a1.other W46 ne_a1_a44
  have Zn := Nat.le_trans Zn (Nat.le_of_eq W46.size.symm)
  have A_b43 := A_b43.other W46 ne_b43_a44
  have A_a44 := B46
  have Kp := Kp.wr W46 (Or.inr sz_a44)
  refine g_iincL C S (1 : Int32) (2 : Int32) dw_38 (pc' := 41) rfl rfl (by decide) rfl (L' := #[.val (.ref a1), .val (.ref a2), .val (.ref a3), .val (.ref b43), .val (.ref a44), .val (.int (2 : Int32))]) rfl ?_
  refine g_goto C S dw_41 (pc' := 15) (by decide) (by decide) ?_
  refine g_iload C S dw_15 (pc' := 17) rfl rfl ?_
  refine g_aload C S dw_17 (pc' := 19) rfl rfl rfl ?_
  refine g_arraylength C S (x := (3 : Int32)) dw_19 A_a44 (by decide) (pc' := 20) rfl ?_
  refine g_icmp_ge C S dw_20 (pc' := 44) (pf := 23) (by decide) (by decide) rfl (fun hc20 => absurd (by decide) hc20) (fun hc20 => ?_)
  refine g_aload C S dw_23 (pc' := 25) rfl rfl rfl ?_
  refine g_iload C S dw_25 (pc' := 27) rfl rfl ?_
  refine g_aloadN C S dw_27 (pc' := 28) rfl rfl rfl ?_
  refine g_iload C S dw_28 (pc' := 30) rfl rfl ?_
  refine g_laload C S (i := 2) (v := (.long q2)) dw_30 A_a1 (by decide) (by decide) hq2 (pc' := 31) rfl ?_
  refine g_l2d C S dw_31 (pc' := 32) rfl ?_
  refine g_aloadN C S dw_32 (pc' := 33) rfl rfl rfl ?_
  refine g_iload C S dw_33 (pc' := 35) rfl rfl ?_
  refine g_daload C S (i := 2) (v := (.double (FP.ddiv t2 (FP.l2d c2)))) dw_35 A_b43 (by decide) (by decide) hs2 (pc' := 36) rfl ?_
  refine g_dmul C S dw_36 (pc' := 37) rfl (nn_of (Jvm.Free.Fl.dmul_mag (Ka := 1088) (Kb := 1057) (Jvm.Free.Fl.l2d_mag _) (ddiv_mag (K := 1056) (L := 1023) m2 (l2d_big (own_nz s2)) (by decide) (by decide)) (by decide) (by decide)) (by decide)) ?_
  refine g_dastore C S (i := 2) dw_37 A_a44 (by decide) (by decide) ge_a44 (pc' := 38) rfl (fun T47 h47 S W47 B47 => ?_)
  have A_a1 := A_a1.other W47 ne_a1_a44
  have Zn := Nat.le_trans Zn (Nat.le_of_eq W47.size.symm)
  have A_b43 := A_b43.other W47 ne_b43_a44
  have A_a44 := B47
  have Kp := Kp.wr W47 (Or.inr sz_a44)
  refine g_iincL C S (1 : Int32) (3 : Int32) dw_38 (pc' := 41) rfl rfl (by decide) rfl (L' := #[.val (.ref a1), .val (.ref a2), .val (.ref a3), .val (.ref b43), .val (.ref a44), .val (.int (3 : Int32))]) rfl ?_
  refine g_goto C S dw_41 (pc' := 15) (by decide) (by decide) ?_
  refine g_iload C S dw_15 (pc' := 17) rfl rfl ?_
  refine g_aload C S dw_17 (pc' := 19) rfl rfl rfl ?_
  refine g_arraylength C S (x := (3 : Int32)) dw_19 A_a44 (by decide) (pc' := 20) rfl ?_
  refine g_icmp_ge C S dw_20 (pc' := 44) (pf := 23) (by decide) (by decide) rfl (fun hc20 => ?_) (fun hc20 => absurd hc20 (by decide))
  refine g_aload C S dw_44 (pc' := 46) rfl rfl rfl ?_
  exact g_retA C S dw_46 rfl rfl rfl (by decide) (by decide) (⟨a44, _, rfl, ge_a44, sz_a44, A_a44, rfl, rfl, rfl⟩)
set_option maxRecDepth 65536 in
set_option maxHeartbeats 40000000 in
theorem c_st100 (l : Launch) (Z : State) (a0 : Array Value) (hw : ∀ d ∈ tables_1, d.before a0 Z = true) (a1 : Addr) (a2 : Addr) (h0 : Heap) (n0 : Nat) (c0 c1 c2 : Int64) (t0 t1 t2 : UInt64) (fc ft : Nat → Value) (m0 : Jvm.Free.Fl.Mag64 1056 t0) (m1 : Jvm.Free.Fl.Mag64 1056 t1) (m2 : Jvm.Free.Fl.Mag64 1056 t2) (hc0 : fc 0 = .long c0) (hc1 : fc 1 = .long c1) (hc2 : fc 2 = .long c2) (ht0 : ft 0 = .double t0) (ht1 : ft 1 = .double t1) (ht2 : ft 2 = .double t2) (s0 : (0 : Int64) < c0) (s1 : ¬ (0 : Int64) < c1) (s2 : ¬ (0 : Int64) < c2) (Zn : n0 ≤ h0.size) (A_a1 : Ary Z h0 a1 .long 3 fc) (A_a2 : Ary Z h0 a2 .double 3 ft) :
    Con l Z (⟨"com/example/tuned_conveyor/tunedconveyor/Allocation", "serviceTimes", "([J[D)[D"⟩ : MethodName) prog_1_method_18_code 9 (some (.array .double)) ({ frames := 0, cells := 1, slots := 3, locals := 0 } : Room) #[(.ref a1), (.ref a2)] h0 n0 (fun v h => ∃ (b : Addr) (f : Nat → Value), v = some (.ref b) ∧ n0 ≤ b ∧ h0.size ≤ b ∧ Keep h0 h [] ∧ Ary Z h b .double 3 f ∧ f 0 = .double (FP.ddiv t0 (FP.l2d c0)) ∧ f 1 = .double (FP.ddiv (FP.dadd FP.dconst0 (FP.ddiv t0 (FP.l2d c0))) (FP.i2d ((0 : Int32) + (1 : Int32)))) ∧ f 2 = .double (FP.ddiv (FP.dadd FP.dconst0 (FP.ddiv t0 (FP.l2d c0))) (FP.i2d ((0 : Int32) + (1 : Int32))))) := by
  refine Con.of (plainFor_of_name (by first | (simp [plainName, overriddenIn]; done) | decide +kernel)) (L0 := #[.val (.ref a1), .val (.ref a2), .unset, .unset, .unset, .unset, .unset, .unset, .unset]) (fun m => by first | (simp [entryFrame, mkF, argsToLocals, Value.category]; done) | rfl) ?_
  intro p e s m below meth c T C S
  have Kp := Keep.refl h0 []
  refine g_dconst0 C S ds_0 (pc' := 1) rfl ?_
  refine g_dstoreN C S ds_1 (pc' := 2) rfl (L' := #[.val (.ref a1), .val (.ref a2), .val (.double FP.dconst0), .second, .unset, .unset, .unset, .unset, .unset]) rfl ?_
  refine g_iconst C S (0 : Int32) ds_2 (pc' := 3) rfl rfl ?_
  refine g_istore C S ds_3 (pc' := 5) rfl (L' := #[.val (.ref a1), .val (.ref a2), .val (.double FP.dconst0), .second, .val (.int (0 : Int32)), .unset, .unset, .unset, .unset]) rfl ?_
  refine g_iconst C S (0 : Int32) ds_5 (pc' := 6) rfl rfl ?_
  refine g_istore C S ds_6 (pc' := 8) rfl (L' := #[.val (.ref a1), .val (.ref a2), .val (.double FP.dconst0), .second, .val (.int (0 : Int32)), .val (.int (0 : Int32)), .unset, .unset, .unset]) rfl ?_
  refine g_iload C S ds_8 (pc' := 10) rfl rfl ?_
  refine g_aloadN C S ds_10 (pc' := 11) rfl rfl rfl ?_
  refine g_arraylength C S (x := (3 : Int32)) ds_11 A_a1 (by decide) (pc' := 12) rfl ?_
  refine g_icmp_ge C S ds_12 (pc' := 46) (pf := 15) (by decide) (by decide) rfl (fun hc12 => absurd (by decide) hc12) (fun hc12 => ?_)
  refine g_aloadN C S ds_15 (pc' := 16) rfl rfl rfl ?_
  refine g_iload C S ds_16 (pc' := 18) rfl rfl ?_
  refine g_laload C S (i := 0) (v := (.long c0)) ds_18 A_a1 (by decide) (by decide) hc0 (pc' := 19) rfl ?_
  refine g_lconst C S (0 : Int64) ds_19 (pc' := 20) rfl rfl ?_
  refine g_lcmp C S ds_20 (pc' := 21) rfl ?_
  refine g_lif_le C S ds_21 (pc' := 40) (pf := 24) (by decide) (by decide) rfl (fun hc21 => absurd s0 hc21) (fun hc21 => ?_)
  refine g_dloadN C S ds_24 (pc' := 25) rfl rfl ?_
  refine g_aloadN C S ds_25 (pc' := 26) rfl rfl rfl ?_
  refine g_iload C S ds_26 (pc' := 28) rfl rfl ?_
  refine g_daload C S (i := 0) (v := (.double t0)) ds_28 A_a2 (by decide) (by decide) ht0 (pc' := 29) rfl ?_
  refine g_aloadN C S ds_29 (pc' := 30) rfl rfl rfl ?_
  refine g_iload C S ds_30 (pc' := 32) rfl rfl ?_
  refine g_laload C S (i := 0) (v := (.long c0)) ds_32 A_a1 (by decide) (by decide) hc0 (pc' := 33) rfl ?_
  refine g_l2d C S ds_33 (pc' := 34) rfl ?_
  refine g_ddiv C S ds_34 (pc' := 35) rfl (nn_of (ddiv_mag (K := 1056) (L := 1023) m0 (l2d_big (own_nz s0)) (by decide) (by decide)) (by decide)) ?_
  refine g_dadd C S ds_35 (pc' := 36) rfl (nn_of (Jvm.Free.Fl.dadd_mag (K := 1057) (Jvm.Free.Fl.Mag64.mono own_mag0 (by decide)) (Jvm.Free.Fl.Mag64.mono (ddiv_mag (K := 1056) (L := 1023) m0 (l2d_big (own_nz s0)) (by decide) (by decide)) (by decide)) (by decide)) (by decide)) ?_
  refine g_dstoreN C S ds_36 (pc' := 37) rfl (L' := #[.val (.ref a1), .val (.ref a2), .val (.double (FP.dadd FP.dconst0 (FP.ddiv t0 (FP.l2d c0)))), .second, .val (.int (0 : Int32)), .val (.int (0 : Int32)), .unset, .unset, .unset]) rfl ?_
  refine g_iincL C S (1 : Int32) (1 : Int32) ds_37 (pc' := 40) rfl rfl (by decide) rfl (L' := #[.val (.ref a1), .val (.ref a2), .val (.double (FP.dadd FP.dconst0 (FP.ddiv t0 (FP.l2d c0)))), .second, .val (.int (1 : Int32)), .val (.int (0 : Int32)), .unset, .unset, .unset]) rfl ?_
  refine g_iincL C S (1 : Int32) (1 : Int32) ds_40 (pc' := 43) rfl rfl (by decide) rfl (L' := #[.val (.ref a1), .val (.ref a2), .val (.double (FP.dadd FP.dconst0 (FP.ddiv t0 (FP.l2d c0)))), .second, .val (.int (1 : Int32)), .val (.int (1 : Int32)), .unset, .unset, .unset]) rfl ?_
  refine g_goto C S ds_43 (pc' := 8) (by decide) (by decide) ?_
  refine g_iload C S ds_8 (pc' := 10) rfl rfl ?_
  refine g_aloadN C S ds_10 (pc' := 11) rfl rfl rfl ?_
  refine g_arraylength C S (x := (3 : Int32)) ds_11 A_a1 (by decide) (pc' := 12) rfl ?_
  refine g_icmp_ge C S ds_12 (pc' := 46) (pf := 15) (by decide) (by decide) rfl (fun hc12 => absurd (by decide) hc12) (fun hc12 => ?_)
  refine g_aloadN C S ds_15 (pc' := 16) rfl rfl rfl ?_
  refine g_iload C S ds_16 (pc' := 18) rfl rfl ?_
  refine g_laload C S (i := 1) (v := (.long c1)) ds_18 A_a1 (by decide) (by decide) hc1 (pc' := 19) rfl ?_
  refine g_lconst C S (0 : Int64) ds_19 (pc' := 20) rfl rfl ?_
  refine g_lcmp C S ds_20 (pc' := 21) rfl ?_
  refine g_lif_le C S ds_21 (pc' := 40) (pf := 24) (by decide) (by decide) rfl (fun hc21 => ?_) (fun hc21 => absurd hc21 s1)
  refine g_iincL C S (1 : Int32) (2 : Int32) ds_40 (pc' := 43) rfl rfl (by decide) rfl (L' := #[.val (.ref a1), .val (.ref a2), .val (.double (FP.dadd FP.dconst0 (FP.ddiv t0 (FP.l2d c0)))), .second, .val (.int (1 : Int32)), .val (.int (2 : Int32)), .unset, .unset, .unset]) rfl ?_
  refine g_goto C S ds_43 (pc' := 8) (by decide) (by decide) ?_
  refine g_iload C S ds_8 (pc' := 10) rfl rfl ?_
  refine g_aloadN C S ds_10 (pc' := 11) rfl rfl rfl ?_
  refine g_arraylength C S (x := (3 : Int32)) ds_11 A_a1 (by decide) (pc' := 12) rfl ?_
  refine g_icmp_ge C S ds_12 (pc' := 46) (pf := 15) (by decide) (by decide) rfl (fun hc12 => absurd (by decide) hc12) (fun hc12 => ?_)
  refine g_aloadN C S ds_15 (pc' := 16) rfl rfl rfl ?_
  refine g_iload C S ds_16 (pc' := 18) rfl rfl ?_
  refine g_laload C S (i := 2) (v := (.long c2)) ds_18 A_a1 (by decide) (by decide) hc2 (pc' := 19) rfl ?_
  refine g_lconst C S (0 : Int64) ds_19 (pc' := 20) rfl rfl ?_
  refine g_lcmp C S ds_20 (pc' := 21) rfl ?_
  refine g_lif_le C S ds_21 (pc' := 40) (pf := 24) (by decide) (by decide) rfl (fun hc21 => ?_) (fun hc21 => absurd hc21 s2)
  refine g_iincL C S (1 : Int32) (3 : Int32) ds_40 (pc' := 43) rfl rfl (by decide) rfl (L' := #[.val (.ref a1), .val (.ref a2), .val (.double (FP.dadd FP.dconst0 (FP.ddiv t0 (FP.l2d c0)))), .second, .val (.int (1 : Int32)), .val (.int (3 : Int32)), .unset, .unset, .unset]) rfl ?_
  refine g_goto C S ds_43 (pc' := 8) (by decide) (by decide) ?_
  refine g_iload C S ds_8 (pc' := 10) rfl rfl ?_
  refine g_aloadN C S ds_10 (pc' := 11) rfl rfl rfl ?_
  refine g_arraylength C S (x := (3 : Int32)) ds_11 A_a1 (by decide) (pc' := 12) rfl ?_
  refine g_icmp_ge C S ds_12 (pc' := 46) (pf := 15) (by decide) (by decide) rfl (fun hc12 => ?_) (fun hc12 => absurd hc12 (by decide))
  refine g_iload C S ds_46 (pc' := 48) rfl rfl ?_
  refine g_if_ne C S ds_48 (pc' := 55) (pf := 51) (by decide) (by decide) rfl (fun hc48 => ?_) (fun hc48 => absurd hc48 (by decide))
  refine g_dloadN C S ds_55 (pc' := 56) rfl rfl ?_
  refine g_iload C S ds_56 (pc' := 58) rfl rfl ?_
  refine g_i2d C S ds_58 (pc' := 59) rfl ?_
  refine g_ddiv C S ds_59 (pc' := 60) rfl (nn_of (ddiv_mag (K := 1059) (L := 1023) (Jvm.Free.Fl.dadd_mag (K := 1057) (Jvm.Free.Fl.Mag64.mono own_mag0 (by decide)) (Jvm.Free.Fl.Mag64.mono (ddiv_mag (K := 1056) (L := 1023) m0 (l2d_big (own_nz s0)) (by decide) (by decide)) (by decide)) (by decide)) (own_i2d (by decide)) (by decide) (by decide)) (by decide)) ?_
  refine g_dstore C S ds_60 (pc' := 62) rfl (L' := #[.val (.ref a1), .val (.ref a2), .val (.double (FP.dadd FP.dconst0 (FP.ddiv t0 (FP.l2d c0)))), .second, .val (.int (1 : Int32)), .val (.double (FP.ddiv (FP.dadd FP.dconst0 (FP.ddiv t0 (FP.l2d c0))) (FP.i2d (1 : Int32)))), .second, .unset, .unset]) rfl ?_
  refine g_aloadN C S ds_62 (pc' := 63) rfl rfl rfl ?_
  refine g_arraylength C S (x := (3 : Int32)) ds_63 A_a1 (by decide) (pc' := 64) rfl ?_
  refine g_newarray C S (N := 3) (cap := 3) ds_64 (hw _ (List.mem_of_getElem? (i := 4) rfl)) (by decide) (by decide) (by decide) (by decide) (by decide) (pc' := 66) rfl (fun T48 h48 a48 S g48 E48 A_a48 => ?_)
  have ne_a1_a48 : a1 ≠ a48 := ne_new g48 A_a1.lt
  have ne_a2_a48 : a2 ≠ a48 := ne_new g48 A_a2.lt
  have sz_a48 : h0.size ≤ a48 := ge_of g48 Kp.1
  have ge_a48 : n0 ≤ a48 := ge_of g48 Zn
  have Kp := Kp.ext E48
  have A_a1 := A_a1.ext E48
  have A_a2 := A_a2.ext E48
  have Zn := Nat.le_trans Zn E48.1
  have A_a48 : Ary Z h48 a48 .double 3 (fun _ => (.double 0)) := A_a48
  refine g_astore C S ds_66 (pc' := 68) rfl rfl (L' := #[.val (.ref a1), .val (.ref a2), .val (.double (FP.dadd FP.dconst0 (FP.ddiv t0 (FP.l2d c0)))), .second, .val (.int (1 : Int32)), .val (.double (FP.ddiv (FP.dadd FP.dconst0 (FP.ddiv t0 (FP.l2d c0))) (FP.i2d (1 : Int32)))), .second, .val (.ref a48), .unset]) rfl ?_
  refine g_iconst C S (0 : Int32) ds_68 (pc' := 69) rfl rfl ?_
  refine g_istore C S ds_69 (pc' := 71) rfl (L' := #[.val (.ref a1), .val (.ref a2), .val (.double (FP.dadd FP.dconst0 (FP.ddiv t0 (FP.l2d c0)))), .second, .val (.int (1 : Int32)), .val (.double (FP.ddiv (FP.dadd FP.dconst0 (FP.ddiv t0 (FP.l2d c0))) (FP.i2d (1 : Int32)))), .second, .val (.ref a48), .val (.int (0 : Int32))]) rfl ?_
  refine g_iload C S ds_71 (pc' := 73) rfl rfl ?_
  refine g_aload C S ds_73 (pc' := 75) rfl rfl rfl ?_
  refine g_arraylength C S (x := (3 : Int32)) ds_75 A_a48 (by decide) (pc' := 76) rfl ?_
  refine g_icmp_ge C S ds_76 (pc' := 114) (pf := 79) (by decide) (by decide) rfl (fun hc76 => absurd (by decide) hc76) (fun hc76 => ?_)
  refine g_aload C S ds_79 (pc' := 81) rfl rfl rfl ?_
  refine g_iload C S ds_81 (pc' := 83) rfl rfl ?_
  refine g_aloadN C S ds_83 (pc' := 84) rfl rfl rfl ?_
  refine g_iload C S ds_84 (pc' := 86) rfl rfl ?_
  refine g_laload C S (i := 0) (v := (.long c0)) ds_86 A_a1 (by decide) (by decide) hc0 (pc' := 87) rfl ?_
  refine g_lconst C S (0 : Int64) ds_87 (pc' := 88) rfl rfl ?_
  refine g_lcmp C S ds_88 (pc' := 89) rfl ?_
  refine g_lif_le C S ds_89 (pc' := 105) (pf := 92) (by decide) (by decide) rfl (fun hc89 => absurd s0 hc89) (fun hc89 => ?_)
  refine g_aloadN C S ds_92 (pc' := 93) rfl rfl rfl ?_
  refine g_iload C S ds_93 (pc' := 95) rfl rfl ?_
  refine g_daload C S (i := 0) (v := (.double t0)) ds_95 A_a2 (by decide) (by decide) ht0 (pc' := 96) rfl ?_
  refine g_aloadN C S ds_96 (pc' := 97) rfl rfl rfl ?_
  refine g_iload C S ds_97 (pc' := 99) rfl rfl ?_
  refine g_laload C S (i := 0) (v := (.long c0)) ds_99 A_a1 (by decide) (by decide) hc0 (pc' := 100) rfl ?_
  refine g_l2d C S ds_100 (pc' := 101) rfl ?_
  refine g_ddiv C S ds_101 (pc' := 102) rfl (nn_of (ddiv_mag (K := 1056) (L := 1023) m0 (l2d_big (own_nz s0)) (by decide) (by decide)) (by decide)) ?_
  refine g_goto C S ds_102 (pc' := 107) (by decide) (by decide) ?_
  refine g_dastore C S (i := 0) ds_107 A_a48 (by decide) (by decide) ge_a48 (pc' := 108) rfl (fun T49 h49 S W49 B49 => ?_)
  have A_a1 := A_a1.other W49 ne_a1_a48
  have A_a2 := A_a2.other W49 ne_a2_a48
  have Zn := Nat.le_trans Zn (Nat.le_of_eq W49.size.symm)
  have A_a48 := B49
  have Kp := Kp.wr W49 (Or.inr sz_a48)
  refine g_iincL C S (1 : Int32) (1 : Int32) ds_108 (pc' := 111) rfl rfl (by decide) rfl (L' := #[.val (.ref a1), .val (.ref a2), .val (.double (FP.dadd FP.dconst0 (FP.ddiv t0 (FP.l2d c0)))), .second, .val (.int (1 : Int32)), .val (.double (FP.ddiv (FP.dadd FP.dconst0 (FP.ddiv t0 (FP.l2d c0))) (FP.i2d (1 : Int32)))), .second, .val (.ref a48), .val (.int (1 : Int32))]) rfl ?_
  refine g_goto C S ds_111 (pc' := 71) (by decide) (by decide) ?_
  refine g_iload C S ds_71 (pc' := 73) rfl rfl ?_
  refine g_aload C S ds_73 (pc' := 75) rfl rfl rfl ?_
  refine g_arraylength C S (x := (3 : Int32)) ds_75 A_a48 (by decide) (pc' := 76) rfl ?_
  refine g_icmp_ge C S ds_76 (pc' := 114) (pf := 79) (by decide) (by decide) rfl (fun hc76 => absurd (by decide) hc76) (fun hc76 => ?_)
  refine g_aload C S ds_79 (pc' := 81) rfl rfl rfl ?_
  refine g_iload C S ds_81 (pc' := 83) rfl rfl ?_
  refine g_aloadN C S ds_83 (pc' := 84) rfl rfl rfl ?_
  refine g_iload C S ds_84 (pc' := 86) rfl rfl ?_
  refine g_laload C S (i := 1) (v := (.long c1)) ds_86 A_a1 (by decide) (by decide) hc1 (pc' := 87) rfl ?_
  refine g_lconst C S (0 : Int64) ds_87 (pc' := 88) rfl rfl ?_
  refine g_lcmp C S ds_88 (pc' := 89) rfl ?_
  refine g_lif_le C S ds_89 (pc' := 105) (pf := 92) (by decide) (by decide) rfl (fun hc89 => ?_) (fun hc89 => absurd hc89 s1)
  refine g_dload C S ds_105 (pc' := 107) rfl rfl ?_
  refine g_dastore C S (i := 1) ds_107 A_a48 (by decide) (by decide) ge_a48 (pc' := 108) rfl (fun T50 h50 S W50 B50 => ?_)
  have A_a1 := A_a1.other W50 ne_a1_a48
  have A_a2 := A_a2.other W50 ne_a2_a48
  have Zn := Nat.le_trans Zn (Nat.le_of_eq W50.size.symm)
  have A_a48 := B50
  have Kp := Kp.wr W50 (Or.inr sz_a48)
  refine g_iincL C S (1 : Int32) (2 : Int32) ds_108 (pc' := 111) rfl rfl (by decide) rfl (L' := #[.val (.ref a1), .val (.ref a2), .val (.double (FP.dadd FP.dconst0 (FP.ddiv t0 (FP.l2d c0)))), .second, .val (.int (1 : Int32)), .val (.double (FP.ddiv (FP.dadd FP.dconst0 (FP.ddiv t0 (FP.l2d c0))) (FP.i2d (1 : Int32)))), .second, .val (.ref a48), .val (.int (2 : Int32))]) rfl ?_
  refine g_goto C S ds_111 (pc' := 71) (by decide) (by decide) ?_
  refine g_iload C S ds_71 (pc' := 73) rfl rfl ?_
  refine g_aload C S ds_73 (pc' := 75) rfl rfl rfl ?_
  refine g_arraylength C S (x := (3 : Int32)) ds_75 A_a48 (by decide) (pc' := 76) rfl ?_
  refine g_icmp_ge C S ds_76 (pc' := 114) (pf := 79) (by decide) (by decide) rfl (fun hc76 => absurd (by decide) hc76) (fun hc76 => ?_)
  refine g_aload C S ds_79 (pc' := 81) rfl rfl rfl ?_
  refine g_iload C S ds_81 (pc' := 83) rfl rfl ?_
  refine g_aloadN C S ds_83 (pc' := 84) rfl rfl rfl ?_
  refine g_iload C S ds_84 (pc' := 86) rfl rfl ?_
  refine g_laload C S (i := 2) (v := (.long c2)) ds_86 A_a1 (by decide) (by decide) hc2 (pc' := 87) rfl ?_
  refine g_lconst C S (0 : Int64) ds_87 (pc' := 88) rfl rfl ?_
  refine g_lcmp C S ds_88 (pc' := 89) rfl ?_
  refine g_lif_le C S ds_89 (pc' := 105) (pf := 92) (by decide) (by decide) rfl (fun hc89 => ?_) (fun hc89 => absurd hc89 s2)
  refine g_dload C S ds_105 (pc' := 107) rfl rfl ?_
  refine g_dastore C S (i := 2) ds_107 A_a48 (by decide) (by decide) ge_a48 (pc' := 108) rfl (fun T51 h51 S W51 B51 => ?_)
  have A_a1 := A_a1.other W51 ne_a1_a48
  have A_a2 := A_a2.other W51 ne_a2_a48
  have Zn := Nat.le_trans Zn (Nat.le_of_eq W51.size.symm)
  have A_a48 := B51
  have Kp := Kp.wr W51 (Or.inr sz_a48)
  refine g_iincL C S (1 : Int32) (3 : Int32) ds_108 (pc' := 111) rfl rfl (by decide) rfl (L' := #[.val (.ref a1), .val (.ref a2), .val (.double (FP.dadd FP.dconst0 (FP.ddiv t0 (FP.l2d c0)))), .second, .val (.int (1 : Int32)), .val (.double (FP.ddiv (FP.dadd FP.dconst0 (FP.ddiv t0 (FP.l2d c0))) (FP.i2d (1 : Int32)))), .second, .val (.ref a48), .val (.int (3 : Int32))]) rfl ?_
  refine g_goto C S ds_111 (pc' := 71) (by decide) (by decide) ?_
  refine g_iload C S ds_71 (pc' := 73) rfl rfl ?_
  refine g_aload C S ds_73 (pc' := 75) rfl rfl rfl ?_
  refine g_arraylength C S (x := (3 : Int32)) ds_75 A_a48 (by decide) (pc' := 76) rfl ?_
  refine g_icmp_ge C S ds_76 (pc' := 114) (pf := 79) (by decide) (by decide) rfl (fun hc76 => ?_) (fun hc76 => absurd hc76 (by decide))
  refine g_aload C S ds_114 (pc' := 116) rfl rfl rfl ?_
  exact g_retA C S ds_116 rfl rfl rfl (by decide) (by decide) (⟨a48, _, rfl, ge_a48, sz_a48, Kp, A_a48, rfl, rfl, rfl⟩)
set_option maxRecDepth 65536 in
set_option maxHeartbeats 40000000 in
theorem c_wt100 (l : Launch) (Z : State) (a0 : Array Value) (hw : ∀ d ∈ tables_1, d.before a0 Z = true) (a1 : Addr) (a2 : Addr) (a3 : Addr) (h0 : Heap) (n0 : Nat) (c0 c1 c2 : Int64) (t0 t1 t2 : UInt64) (fc ft : Nat → Value) (m0 : Jvm.Free.Fl.Mag64 1056 t0) (m1 : Jvm.Free.Fl.Mag64 1056 t1) (m2 : Jvm.Free.Fl.Mag64 1056 t2) (hc0 : fc 0 = .long c0) (hc1 : fc 1 = .long c1) (hc2 : fc 2 = .long c2) (ht0 : ft 0 = .double t0) (ht1 : ft 1 = .double t1) (ht2 : ft 2 = .double t2) (q0 q1 q2 : Int64) (fq : Nat → Value) (hq0 : fq 0 = .long q0) (hq1 : fq 1 = .long q1) (hq2 : fq 2 = .long q2) (s0 : (0 : Int64) < c0) (s1 : ¬ (0 : Int64) < c1) (s2 : ¬ (0 : Int64) < c2) (Zn : n0 ≤ h0.size) (A_a1 : Ary Z h0 a1 .long 3 fq) (A_a2 : Ary Z h0 a2 .long 3 fc) (A_a3 : Ary Z h0 a3 .double 3 ft) :
    Con l Z (⟨"com/example/tuned_conveyor/tunedconveyor/Allocation", "weights", "([J[J[D)[D"⟩ : MethodName) prog_1_method_17_code 6 (some (.array .double)) ({ frames := 1, cells := 2, slots := 6, locals := 20 } : Room) #[(.ref a1), (.ref a2), (.ref a3)] h0 n0 (fun v h => ∃ (b : Addr) (f : Nat → Value), v = some (.ref b) ∧ n0 ≤ b ∧ h0.size ≤ b ∧ Ary Z h b .double 3 f ∧ f 0 = .double (FP.dmul (FP.l2d q0) (FP.ddiv t0 (FP.l2d c0))) ∧ f 1 = .double (FP.dmul (FP.l2d q1) (FP.ddiv (FP.dadd FP.dconst0 (FP.ddiv t0 (FP.l2d c0))) (FP.i2d ((0 : Int32) + (1 : Int32))))) ∧ f 2 = .double (FP.dmul (FP.l2d q2) (FP.ddiv (FP.dadd FP.dconst0 (FP.ddiv t0 (FP.l2d c0))) (FP.i2d ((0 : Int32) + (1 : Int32)))))) := by
  refine Con.of (plainFor_of_name (by first | (simp [plainName, overriddenIn]; done) | decide +kernel)) (L0 := #[.val (.ref a1), .val (.ref a2), .val (.ref a3), .unset, .unset, .unset]) (fun m => by first | (simp [entryFrame, mkF, argsToLocals, Value.category]; done) | rfl) ?_
  intro p e s m below meth c T C S
  have Kp := Keep.refl h0 []
  have lt_a1 := A_a1.lt
  refine g_aloadN C S dw_0 (pc' := 1) rfl rfl rfl ?_
  refine g_aloadN C S dw_1 (pc' := 2) rfl rfl rfl ?_
  refine g_callS C S (rm := ({ frames := 0, cells := 1, slots := 3, locals := 0 } : Room)) (W := 0) dw_2 (hw _ (List.mem_of_getElem? (i := 9) rfl)) (hw _ (List.mem_of_getElem? (i := 10) rfl)) (hw _ (List.mem_of_getElem? (i := 7) rfl)) (hw _ (List.mem_of_getElem? (i := 11) rfl)) (by decide) (c_st100 l Z a0 hw a2 a3 h0 n0 c0 c1 c2 t0 t1 t2 fc ft m0 m1 m2 hc0 hc1 hc2 ht0 ht1 ht2 s0 s1 s2 Zn A_a2 A_a3) (argsL := [(.ref a2), (.ref a3)]) (r := []) rfl (lenOf pd_0 rfl) rfl (Nat.le_of_eq rfl) (by decide) (by decide) (by decide) (by decide) (pc' := 5) rfl (fun T52 h52 v52 q52 S => ?_)
  obtain ⟨b52, fs, rfl, ge_b52, sz_b52, K52, A_b52, hs0, hs1, hs2⟩ := q52
  have Kp := Kp.trans K52 all0
  have A_a1 := A_a1.keep K52 nin0
  have Zn := Nat.le_trans Zn K52.1
  have ne_a1_b52 : a1 ≠ b52 := Nat.ne_of_lt (Nat.lt_of_lt_of_le lt_a1 sz_b52)
  show Gl p e below s _ n0 _ T52 (mkF m 5 #[.val (.ref a1), .val (.ref a2), .val (.ref a3), .unset, .unset, .unset] [(.ref b52)])
  refine g_astoreN C S dw_5 (pc' := 6) rfl rfl (L' := #[.val (.ref a1), .val (.ref a2), .val (.ref a3), .val (.ref b52), .unset, .unset]) rfl ?_
  refine g_aloadN C S dw_6 (pc' := 7) rfl rfl rfl ?_
  refine g_arraylength C S (x := (3 : Int32)) dw_7 A_b52 (by decide) (pc' := 8) rfl ?_
  refine g_newarray C S (N := 3) (cap := 3) dw_8 (hw _ (List.mem_of_getElem? (i := 4) rfl)) (by decide) (by decide) (by decide) (by decide) (by decide) (pc' := 10) rfl (fun T53 h53 a53 S g53 E53 A_a53 => ?_)
  have ne_a1_a53 : a1 ≠ a53 := ne_new g53 A_a1.lt
  have ne_b52_a53 : b52 ≠ a53 := ne_new g53 A_b52.lt
  have sz_a53 : h0.size ≤ a53 := ge_of g53 Kp.1
  have ge_a53 : n0 ≤ a53 := ge_of g53 Zn
  have Kp := Kp.ext E53
  have A_a1 := A_a1.ext E53
  have Zn := Nat.le_trans Zn E53.1
  have A_b52 := A_b52.ext E53
  have A_a53 : Ary Z h53 a53 .double 3 (fun _ => (.double 0)) := A_a53
  refine g_astore C S dw_10 (pc' := 12) rfl rfl (L' := #[.val (.ref a1), .val (.ref a2), .val (.ref a3), .val (.ref b52), .val (.ref a53), .unset]) rfl ?_
  refine g_iconst C S (0 : Int32) dw_12 (pc' := 13) rfl rfl ?_
  refine g_istore C S dw_13 (pc' := 15) rfl (L' := #[.val (.ref a1), .val (.ref a2), .val (.ref a3), .val (.ref b52), .val (.ref a53), .val (.int (0 : Int32))]) rfl ?_
  refine g_iload C S dw_15 (pc' := 17) rfl rfl ?_
  refine g_aload C S dw_17 (pc' := 19) rfl rfl rfl ?_
  refine g_arraylength C S (x := (3 : Int32)) dw_19 A_a53 (by decide) (pc' := 20) rfl ?_
  refine g_icmp_ge C S dw_20 (pc' := 44) (pf := 23) (by decide) (by decide) rfl (fun hc20 => absurd (by decide) hc20) (fun hc20 => ?_)
  refine g_aload C S dw_23 (pc' := 25) rfl rfl rfl ?_
  refine g_iload C S dw_25 (pc' := 27) rfl rfl ?_
  refine g_aloadN C S dw_27 (pc' := 28) rfl rfl rfl ?_
  refine g_iload C S dw_28 (pc' := 30) rfl rfl ?_
  refine g_laload C S (i := 0) (v := (.long q0)) dw_30 A_a1 (by decide) (by decide) hq0 (pc' := 31) rfl ?_
  refine g_l2d C S dw_31 (pc' := 32) rfl ?_
  refine g_aloadN C S dw_32 (pc' := 33) rfl rfl rfl ?_
  refine g_iload C S dw_33 (pc' := 35) rfl rfl ?_
  refine g_daload C S (i := 0) (v := (.double (FP.ddiv t0 (FP.l2d c0)))) dw_35 A_b52 (by decide) (by decide) hs0 (pc' := 36) rfl ?_
  refine g_dmul C S dw_36 (pc' := 37) rfl (nn_of (Jvm.Free.Fl.dmul_mag (Ka := 1088) (Kb := 1057) (Jvm.Free.Fl.l2d_mag _) (ddiv_mag (K := 1056) (L := 1023) m0 (l2d_big (own_nz s0)) (by decide) (by decide)) (by decide) (by decide)) (by decide)) ?_
  refine g_dastore C S (i := 0) dw_37 A_a53 (by decide) (by decide) ge_a53 (pc' := 38) rfl (fun T54 h54 S W54 B54 => ?_)
  have A_a1 := A_a1.other W54 ne_a1_a53
  have Zn := Nat.le_trans Zn (Nat.le_of_eq W54.size.symm)
  have A_b52 := A_b52.other W54 ne_b52_a53
  have A_a53 := B54
  have Kp := Kp.wr W54 (Or.inr sz_a53)
  refine g_iincL C S (1 : Int32) (1 : Int32) dw_38 (pc' := 41) rfl rfl (by decide) rfl (L' := #[.val (.ref a1), .val (.ref a2), .val (.ref a3), .val (.ref b52), .val (.ref a53), .val (.int (1 : Int32))]) rfl ?_
  refine g_goto C S dw_41 (pc' := 15) (by decide) (by decide) ?_
  refine g_iload C S dw_15 (pc' := 17) rfl rfl ?_
  refine g_aload C S dw_17 (pc' := 19) rfl rfl rfl ?_
  refine g_arraylength C S (x := (3 : Int32)) dw_19 A_a53 (by decide) (pc' := 20) rfl ?_
  refine g_icmp_ge C S dw_20 (pc' := 44) (pf := 23) (by decide) (by decide) rfl (fun hc20 => absurd (by decide) hc20) (fun hc20 => ?_)
  refine g_aload C S dw_23 (pc' := 25) rfl rfl rfl ?_
  refine g_iload C S dw_25 (pc' := 27) rfl rfl ?_
  refine g_aloadN C S dw_27 (pc' := 28) rfl rfl rfl ?_
  refine g_iload C S dw_28 (pc' := 30) rfl rfl ?_
  refine g_laload C S (i := 1) (v := (.long q1)) dw_30 A_a1 (by decide) (by decide) hq1 (pc' := 31) rfl ?_
  refine g_l2d C S dw_31 (pc' := 32) rfl ?_
  refine g_aloadN C S dw_32 (pc' := 33) rfl rfl rfl ?_
  refine g_iload C S dw_33 (pc' := 35) rfl rfl ?_
  refine g_daload C S (i := 1) (v := (.double (FP.ddiv (FP.dadd FP.dconst0 (FP.ddiv t0 (FP.l2d c0))) (FP.i2d ((0 : Int32) + (1 : Int32)))))) dw_35 A_b52 (by decide) (by decide) hs1 (pc' := 36) rfl ?_
  refine g_dmul C S dw_36 (pc' := 37) rfl (nn_of (Jvm.Free.Fl.dmul_mag (Ka := 1088) (Kb := 1060) (Jvm.Free.Fl.l2d_mag _) (ddiv_mag (K := 1059) (L := 1023) (Jvm.Free.Fl.dadd_mag (K := 1057) (Jvm.Free.Fl.Mag64.mono own_mag0 (by decide)) (Jvm.Free.Fl.Mag64.mono (ddiv_mag (K := 1056) (L := 1023) m0 (l2d_big (own_nz s0)) (by decide) (by decide)) (by decide)) (by decide)) (own_i2d (by decide)) (by decide) (by decide)) (by decide) (by decide)) (by decide)) ?_
  refine g_dastore C S (i := 1) dw_37 A_a53 (by decide) (by decide) ge_a53 (pc' := 38) rfl (fun T55 h55 S W55 B55 => ?_)
  have A_a1 := A_a1.other W55 ne_a1_a53
  have Zn := Nat.le_trans Zn (Nat.le_of_eq W55.size.symm)
  have A_b52 := A_b52.other W55 ne_b52_a53
  have A_a53 := B55
  have Kp := Kp.wr W55 (Or.inr sz_a53)
  refine g_iincL C S (1 : Int32) (2 : Int32) dw_38 (pc' := 41) rfl rfl (by decide) rfl (L' := #[.val (.ref a1), .val (.ref a2), .val (.ref a3), .val (.ref b52), .val (.ref a53), .val (.int (2 : Int32))]) rfl ?_
  refine g_goto C S dw_41 (pc' := 15) (by decide) (by decide) ?_
  refine g_iload C S dw_15 (pc' := 17) rfl rfl ?_
  refine g_aload C S dw_17 (pc' := 19) rfl rfl rfl ?_
  refine g_arraylength C S (x := (3 : Int32)) dw_19 A_a53 (by decide) (pc' := 20) rfl ?_
  refine g_icmp_ge C S dw_20 (pc' := 44) (pf := 23) (by decide) (by decide) rfl (fun hc20 => absurd (by decide) hc20) (fun hc20 => ?_)
  refine g_aload C S dw_23 (pc' := 25) rfl rfl rfl ?_
  refine g_iload C S dw_25 (pc' := 27) rfl rfl ?_
  refine g_aloadN C S dw_27 (pc' := 28) rfl rfl rfl ?_
  refine g_iload C S dw_28 (pc' := 30) rfl rfl ?_
  refine g_laload C S (i := 2) (v := (.long q2)) dw_30 A_a1 (by decide) (by decide) hq2 (pc' := 31) rfl ?_
  refine g_l2d C S dw_31 (pc' := 32) rfl ?_
  refine g_aloadN C S dw_32 (pc' := 33) rfl rfl rfl ?_
  refine g_iload C S dw_33 (pc' := 35) rfl rfl ?_
  refine g_daload C S (i := 2) (v := (.double (FP.ddiv (FP.dadd FP.dconst0 (FP.ddiv t0 (FP.l2d c0))) (FP.i2d ((0 : Int32) + (1 : Int32)))))) dw_35 A_b52 (by decide) (by decide) hs2 (pc' := 36) rfl ?_
  refine g_dmul C S dw_36 (pc' := 37) rfl (nn_of (Jvm.Free.Fl.dmul_mag (Ka := 1088) (Kb := 1060) (Jvm.Free.Fl.l2d_mag _) (ddiv_mag (K := 1059) (L := 1023) (Jvm.Free.Fl.dadd_mag (K := 1057) (Jvm.Free.Fl.Mag64.mono own_mag0 (by decide)) (Jvm.Free.Fl.Mag64.mono (ddiv_mag (K := 1056) (L := 1023) m0 (l2d_big (own_nz s0)) (by decide) (by decide)) (by decide)) (by decide)) (own_i2d (by decide)) (by decide) (by decide)) (by decide) (by decide)) (by decide)) ?_
  refine g_dastore C S (i := 2) dw_37 A_a53 (by decide) (by decide) ge_a53 (pc' := 38) rfl (fun T56 h56 S W56 B56 => ?_)
  have A_a1 := A_a1.other W56 ne_a1_a53
  have Zn := Nat.le_trans Zn (Nat.le_of_eq W56.size.symm)
  have A_b52 := A_b52.other W56 ne_b52_a53
  have A_a53 := B56
  have Kp := Kp.wr W56 (Or.inr sz_a53)
  refine g_iincL C S (1 : Int32) (3 : Int32) dw_38 (pc' := 41) rfl rfl (by decide) rfl (L' := #[.val (.ref a1), .val (.ref a2), .val (.ref a3), .val (.ref b52), .val (.ref a53), .val (.int (3 : Int32))]) rfl ?_
  refine g_goto C S dw_41 (pc' := 15) (by decide) (by decide) ?_
  refine g_iload C S dw_15 (pc' := 17) rfl rfl ?_
  refine g_aload C S dw_17 (pc' := 19) rfl rfl rfl ?_
  refine g_arraylength C S (x := (3 : Int32)) dw_19 A_a53 (by decide) (pc' := 20) rfl ?_
  refine g_icmp_ge C S dw_20 (pc' := 44) (pf := 23) (by decide) (by decide) rfl (fun hc20 => ?_) (fun hc20 => absurd hc20 (by decide))
  refine g_aload C S dw_44 (pc' := 46) rfl rfl rfl ?_
  exact g_retA C S dw_46 rfl rfl rfl (by decide) (by decide) (⟨a53, _, rfl, ge_a53, sz_a53, A_a53, rfl, rfl, rfl⟩)
set_option maxRecDepth 65536 in
set_option maxHeartbeats 40000000 in
theorem c_st011 (l : Launch) (Z : State) (a0 : Array Value) (hw : ∀ d ∈ tables_1, d.before a0 Z = true) (a1 : Addr) (a2 : Addr) (h0 : Heap) (n0 : Nat) (c0 c1 c2 : Int64) (t0 t1 t2 : UInt64) (fc ft : Nat → Value) (m0 : Jvm.Free.Fl.Mag64 1056 t0) (m1 : Jvm.Free.Fl.Mag64 1056 t1) (m2 : Jvm.Free.Fl.Mag64 1056 t2) (hc0 : fc 0 = .long c0) (hc1 : fc 1 = .long c1) (hc2 : fc 2 = .long c2) (ht0 : ft 0 = .double t0) (ht1 : ft 1 = .double t1) (ht2 : ft 2 = .double t2) (s0 : ¬ (0 : Int64) < c0) (s1 : (0 : Int64) < c1) (s2 : (0 : Int64) < c2) (Zn : n0 ≤ h0.size) (A_a1 : Ary Z h0 a1 .long 3 fc) (A_a2 : Ary Z h0 a2 .double 3 ft) :
    Con l Z (⟨"com/example/tuned_conveyor/tunedconveyor/Allocation", "serviceTimes", "([J[D)[D"⟩ : MethodName) prog_1_method_18_code 9 (some (.array .double)) ({ frames := 0, cells := 1, slots := 3, locals := 0 } : Room) #[(.ref a1), (.ref a2)] h0 n0 (fun v h => ∃ (b : Addr) (f : Nat → Value), v = some (.ref b) ∧ n0 ≤ b ∧ h0.size ≤ b ∧ Keep h0 h [] ∧ Ary Z h b .double 3 f ∧ f 0 = .double (FP.ddiv (FP.dadd (FP.dadd FP.dconst0 (FP.ddiv t1 (FP.l2d c1))) (FP.ddiv t2 (FP.l2d c2))) (FP.i2d (((0 : Int32) + (1 : Int32)) + (1 : Int32)))) ∧ f 1 = .double (FP.ddiv t1 (FP.l2d c1)) ∧ f 2 = .double (FP.ddiv t2 (FP.l2d c2))) := by
  refine Con.of (plainFor_of_name (by first | (simp [plainName, overriddenIn]; done) | decide +kernel)) (L0 := #[.val (.ref a1), .val (.ref a2), .unset, .unset, .unset, .unset, .unset, .unset, .unset]) (fun m => by first | (simp [entryFrame, mkF, argsToLocals, Value.category]; done) | rfl) ?_
  intro p e s m below meth c T C S
  have Kp := Keep.refl h0 []
  refine g_dconst0 C S ds_0 (pc' := 1) rfl ?_
  refine g_dstoreN C S ds_1 (pc' := 2) rfl (L' := #[.val (.ref a1), .val (.ref a2), .val (.double FP.dconst0), .second, .unset, .unset, .unset, .unset, .unset]) rfl ?_
  refine g_iconst C S (0 : Int32) ds_2 (pc' := 3) rfl rfl ?_
  refine g_istore C S ds_3 (pc' := 5) rfl (L' := #[.val (.ref a1), .val (.ref a2), .val (.double FP.dconst0), .second, .val (.int (0 : Int32)), .unset, .unset, .unset, .unset]) rfl ?_
  refine g_iconst C S (0 : Int32) ds_5 (pc' := 6) rfl rfl ?_
  refine g_istore C S ds_6 (pc' := 8) rfl (L' := #[.val (.ref a1), .val (.ref a2), .val (.double FP.dconst0), .second, .val (.int (0 : Int32)), .val (.int (0 : Int32)), .unset, .unset, .unset]) rfl ?_
  refine g_iload C S ds_8 (pc' := 10) rfl rfl ?_
  refine g_aloadN C S ds_10 (pc' := 11) rfl rfl rfl ?_
  refine g_arraylength C S (x := (3 : Int32)) ds_11 A_a1 (by decide) (pc' := 12) rfl ?_
  refine g_icmp_ge C S ds_12 (pc' := 46) (pf := 15) (by decide) (by decide) rfl (fun hc12 => absurd (by decide) hc12) (fun hc12 => ?_)
  refine g_aloadN C S ds_15 (pc' := 16) rfl rfl rfl ?_
  refine g_iload C S ds_16 (pc' := 18) rfl rfl ?_
  refine g_laload C S (i := 0) (v := (.long c0)) ds_18 A_a1 (by decide) (by decide) hc0 (pc' := 19) rfl ?_
  refine g_lconst C S (0 : Int64) ds_19 (pc' := 20) rfl rfl ?_
  refine g_lcmp C S ds_20 (pc' := 21) rfl ?_
  refine g_lif_le C S ds_21 (pc' := 40) (pf := 24) (by decide) (by decide) rfl (fun hc21 => ?_) (fun hc21 => absurd hc21 s0)
  refine g_iincL C S (1 : Int32) (1 : Int32) ds_40 (pc' := 43) rfl rfl (by decide) rfl (L' := #[.val (.ref a1), .val (.ref a2), .val (.double FP.dconst0), .second, .val (.int (0 : Int32)), .val (.int (1 : Int32)), .unset, .unset, .unset]) rfl ?_
  refine g_goto C S ds_43 (pc' := 8) (by decide) (by decide) ?_
  refine g_iload C S ds_8 (pc' := 10) rfl rfl ?_
  refine g_aloadN C S ds_10 (pc' := 11) rfl rfl rfl ?_
  refine g_arraylength C S (x := (3 : Int32)) ds_11 A_a1 (by decide) (pc' := 12) rfl ?_
  refine g_icmp_ge C S ds_12 (pc' := 46) (pf := 15) (by decide) (by decide) rfl (fun hc12 => absurd (by decide) hc12) (fun hc12 => ?_)
  refine g_aloadN C S ds_15 (pc' := 16) rfl rfl rfl ?_
  refine g_iload C S ds_16 (pc' := 18) rfl rfl ?_
  refine g_laload C S (i := 1) (v := (.long c1)) ds_18 A_a1 (by decide) (by decide) hc1 (pc' := 19) rfl ?_
  refine g_lconst C S (0 : Int64) ds_19 (pc' := 20) rfl rfl ?_
  refine g_lcmp C S ds_20 (pc' := 21) rfl ?_
  refine g_lif_le C S ds_21 (pc' := 40) (pf := 24) (by decide) (by decide) rfl (fun hc21 => absurd s1 hc21) (fun hc21 => ?_)
  refine g_dloadN C S ds_24 (pc' := 25) rfl rfl ?_
  refine g_aloadN C S ds_25 (pc' := 26) rfl rfl rfl ?_
  refine g_iload C S ds_26 (pc' := 28) rfl rfl ?_
  refine g_daload C S (i := 1) (v := (.double t1)) ds_28 A_a2 (by decide) (by decide) ht1 (pc' := 29) rfl ?_
  refine g_aloadN C S ds_29 (pc' := 30) rfl rfl rfl ?_
  refine g_iload C S ds_30 (pc' := 32) rfl rfl ?_
  refine g_laload C S (i := 1) (v := (.long c1)) ds_32 A_a1 (by decide) (by decide) hc1 (pc' := 33) rfl ?_
  refine g_l2d C S ds_33 (pc' := 34) rfl ?_
  refine g_ddiv C S ds_34 (pc' := 35) rfl (nn_of (ddiv_mag (K := 1056) (L := 1023) m1 (l2d_big (own_nz s1)) (by decide) (by decide)) (by decide)) ?_
  refine g_dadd C S ds_35 (pc' := 36) rfl (nn_of (Jvm.Free.Fl.dadd_mag (K := 1057) (Jvm.Free.Fl.Mag64.mono own_mag0 (by decide)) (Jvm.Free.Fl.Mag64.mono (ddiv_mag (K := 1056) (L := 1023) m1 (l2d_big (own_nz s1)) (by decide) (by decide)) (by decide)) (by decide)) (by decide)) ?_
  refine g_dstoreN C S ds_36 (pc' := 37) rfl (L' := #[.val (.ref a1), .val (.ref a2), .val (.double (FP.dadd FP.dconst0 (FP.ddiv t1 (FP.l2d c1)))), .second, .val (.int (0 : Int32)), .val (.int (1 : Int32)), .unset, .unset, .unset]) rfl ?_
  refine g_iincL C S (1 : Int32) (1 : Int32) ds_37 (pc' := 40) rfl rfl (by decide) rfl (L' := #[.val (.ref a1), .val (.ref a2), .val (.double (FP.dadd FP.dconst0 (FP.ddiv t1 (FP.l2d c1)))), .second, .val (.int (1 : Int32)), .val (.int (1 : Int32)), .unset, .unset, .unset]) rfl ?_
  refine g_iincL C S (1 : Int32) (2 : Int32) ds_40 (pc' := 43) rfl rfl (by decide) rfl (L' := #[.val (.ref a1), .val (.ref a2), .val (.double (FP.dadd FP.dconst0 (FP.ddiv t1 (FP.l2d c1)))), .second, .val (.int (1 : Int32)), .val (.int (2 : Int32)), .unset, .unset, .unset]) rfl ?_
  refine g_goto C S ds_43 (pc' := 8) (by decide) (by decide) ?_
  refine g_iload C S ds_8 (pc' := 10) rfl rfl ?_
  refine g_aloadN C S ds_10 (pc' := 11) rfl rfl rfl ?_
  refine g_arraylength C S (x := (3 : Int32)) ds_11 A_a1 (by decide) (pc' := 12) rfl ?_
  refine g_icmp_ge C S ds_12 (pc' := 46) (pf := 15) (by decide) (by decide) rfl (fun hc12 => absurd (by decide) hc12) (fun hc12 => ?_)
  refine g_aloadN C S ds_15 (pc' := 16) rfl rfl rfl ?_
  refine g_iload C S ds_16 (pc' := 18) rfl rfl ?_
  refine g_laload C S (i := 2) (v := (.long c2)) ds_18 A_a1 (by decide) (by decide) hc2 (pc' := 19) rfl ?_
  refine g_lconst C S (0 : Int64) ds_19 (pc' := 20) rfl rfl ?_
  refine g_lcmp C S ds_20 (pc' := 21) rfl ?_
  refine g_lif_le C S ds_21 (pc' := 40) (pf := 24) (by decide) (by decide) rfl (fun hc21 => absurd s2 hc21) (fun hc21 => ?_)
  refine g_dloadN C S ds_24 (pc' := 25) rfl rfl ?_
  refine g_aloadN C S ds_25 (pc' := 26) rfl rfl rfl ?_
  refine g_iload C S ds_26 (pc' := 28) rfl rfl ?_
  refine g_daload C S (i := 2) (v := (.double t2)) ds_28 A_a2 (by decide) (by decide) ht2 (pc' := 29) rfl ?_
  refine g_aloadN C S ds_29 (pc' := 30) rfl rfl rfl ?_
  refine g_iload C S ds_30 (pc' := 32) rfl rfl ?_
  refine g_laload C S (i := 2) (v := (.long c2)) ds_32 A_a1 (by decide) (by decide) hc2 (pc' := 33) rfl ?_
  refine g_l2d C S ds_33 (pc' := 34) rfl ?_
  refine g_ddiv C S ds_34 (pc' := 35) rfl (nn_of (ddiv_mag (K := 1056) (L := 1023) m2 (l2d_big (own_nz s2)) (by decide) (by decide)) (by decide)) ?_
  refine g_dadd C S ds_35 (pc' := 36) rfl (nn_of (Jvm.Free.Fl.dadd_mag (K := 1059) (Jvm.Free.Fl.Mag64.mono (Jvm.Free.Fl.dadd_mag (K := 1057) (Jvm.Free.Fl.Mag64.mono own_mag0 (by decide)) (Jvm.Free.Fl.Mag64.mono (ddiv_mag (K := 1056) (L := 1023) m1 (l2d_big (own_nz s1)) (by decide) (by decide)) (by decide)) (by decide)) (by decide)) (Jvm.Free.Fl.Mag64.mono (ddiv_mag (K := 1056) (L := 1023) m2 (l2d_big (own_nz s2)) (by decide) (by decide)) (by decide)) (by decide)) (by decide)) ?_
  refine g_dstoreN C S ds_36 (pc' := 37) rfl (L' := #[.val (.ref a1), .val (.ref a2), .val (.double (FP.dadd (FP.dadd FP.dconst0 (FP.ddiv t1 (FP.l2d c1))) (FP.ddiv t2 (FP.l2d c2)))), .second, .val (.int (1 : Int32)), .val (.int (2 : Int32)), .unset, .unset, .unset]) rfl ?_
  refine g_iincL C S (1 : Int32) (2 : Int32) ds_37 (pc' := 40) rfl rfl (by decide) rfl (L' := #[.val (.ref a1), .val (.ref a2), .val (.double (FP.dadd (FP.dadd FP.dconst0 (FP.ddiv t1 (FP.l2d c1))) (FP.ddiv t2 (FP.l2d c2)))), .second, .val (.int (2 : Int32)), .val (.int (2 : Int32)), .unset, .unset, .unset]) rfl ?_
  refine g_iincL C S (1 : Int32) (3 : Int32) ds_40 (pc' := 43) rfl rfl (by decide) rfl (L' := #[.val (.ref a1), .val (.ref a2), .val (.double (FP.dadd (FP.dadd FP.dconst0 (FP.ddiv t1 (FP.l2d c1))) (FP.ddiv t2 (FP.l2d c2)))), .second, .val (.int (2 : Int32)), .val (.int (3 : Int32)), .unset, .unset, .unset]) rfl ?_
  refine g_goto C S ds_43 (pc' := 8) (by decide) (by decide) ?_
  refine g_iload C S ds_8 (pc' := 10) rfl rfl ?_
  refine g_aloadN C S ds_10 (pc' := 11) rfl rfl rfl ?_
  refine g_arraylength C S (x := (3 : Int32)) ds_11 A_a1 (by decide) (pc' := 12) rfl ?_
  refine g_icmp_ge C S ds_12 (pc' := 46) (pf := 15) (by decide) (by decide) rfl (fun hc12 => ?_) (fun hc12 => absurd hc12 (by decide))
  refine g_iload C S ds_46 (pc' := 48) rfl rfl ?_
  refine g_if_ne C S ds_48 (pc' := 55) (pf := 51) (by decide) (by decide) rfl (fun hc48 => ?_) (fun hc48 => absurd hc48 (by decide))
  refine g_dloadN C S ds_55 (pc' := 56) rfl rfl ?_
  refine g_iload C S ds_56 (pc' := 58) rfl rfl ?_
  refine g_i2d C S ds_58 (pc' := 59) rfl ?_
  refine g_ddiv C S ds_59 (pc' := 60) rfl (nn_of (ddiv_mag (K := 1061) (L := 1023) (Jvm.Free.Fl.dadd_mag (K := 1059) (Jvm.Free.Fl.Mag64.mono (Jvm.Free.Fl.dadd_mag (K := 1057) (Jvm.Free.Fl.Mag64.mono own_mag0 (by decide)) (Jvm.Free.Fl.Mag64.mono (ddiv_mag (K := 1056) (L := 1023) m1 (l2d_big (own_nz s1)) (by decide) (by decide)) (by decide)) (by decide)) (by decide)) (Jvm.Free.Fl.Mag64.mono (ddiv_mag (K := 1056) (L := 1023) m2 (l2d_big (own_nz s2)) (by decide) (by decide)) (by decide)) (by decide)) (own_i2d (by decide)) (by decide) (by decide)) (by decide)) ?_
  refine g_dstore C S ds_60 (pc' := 62) rfl (L' := #[.val (.ref a1), .val (.ref a2), .val (.double (FP.dadd (FP.dadd FP.dconst0 (FP.ddiv t1 (FP.l2d c1))) (FP.ddiv t2 (FP.l2d c2)))), .second, .val (.int (2 : Int32)), .val (.double (FP.ddiv (FP.dadd (FP.dadd FP.dconst0 (FP.ddiv t1 (FP.l2d c1))) (FP.ddiv t2 (FP.l2d c2))) (FP.i2d (2 : Int32)))), .second, .unset, .unset]) rfl ?_
  refine g_aloadN C S ds_62 (pc' := 63) rfl rfl rfl ?_
  refine g_arraylength C S (x := (3 : Int32)) ds_63 A_a1 (by decide) (pc' := 64) rfl ?_
  refine g_newarray C S (N := 3) (cap := 3) ds_64 (hw _ (List.mem_of_getElem? (i := 4) rfl)) (by decide) (by decide) (by decide) (by decide) (by decide) (pc' := 66) rfl (fun T57 h57 a57 S g57 E57 A_a57 => ?_)
  have ne_a1_a57 : a1 ≠ a57 := ne_new g57 A_a1.lt
  have ne_a2_a57 : a2 ≠ a57 := ne_new g57 A_a2.lt
  have sz_a57 : h0.size ≤ a57 := ge_of g57 Kp.1
  have ge_a57 : n0 ≤ a57 := ge_of g57 Zn
  have Kp := Kp.ext E57
  have A_a1 := A_a1.ext E57
  have A_a2 := A_a2.ext E57
  have Zn := Nat.le_trans Zn E57.1
  have A_a57 : Ary Z h57 a57 .double 3 (fun _ => (.double 0)) := A_a57
  refine g_astore C S ds_66 (pc' := 68) rfl rfl (L' := #[.val (.ref a1), .val (.ref a2), .val (.double (FP.dadd (FP.dadd FP.dconst0 (FP.ddiv t1 (FP.l2d c1))) (FP.ddiv t2 (FP.l2d c2)))), .second, .val (.int (2 : Int32)), .val (.double (FP.ddiv (FP.dadd (FP.dadd FP.dconst0 (FP.ddiv t1 (FP.l2d c1))) (FP.ddiv t2 (FP.l2d c2))) (FP.i2d (2 : Int32)))), .second, .val (.ref a57), .unset]) rfl ?_
  refine g_iconst C S (0 : Int32) ds_68 (pc' := 69) rfl rfl ?_
  refine g_istore C S ds_69 (pc' := 71) rfl (L' := #[.val (.ref a1), .val (.ref a2), .val (.double (FP.dadd (FP.dadd FP.dconst0 (FP.ddiv t1 (FP.l2d c1))) (FP.ddiv t2 (FP.l2d c2)))), .second, .val (.int (2 : Int32)), .val (.double (FP.ddiv (FP.dadd (FP.dadd FP.dconst0 (FP.ddiv t1 (FP.l2d c1))) (FP.ddiv t2 (FP.l2d c2))) (FP.i2d (2 : Int32)))), .second, .val (.ref a57), .val (.int (0 : Int32))]) rfl ?_
  refine g_iload C S ds_71 (pc' := 73) rfl rfl ?_
  refine g_aload C S ds_73 (pc' := 75) rfl rfl rfl ?_
  refine g_arraylength C S (x := (3 : Int32)) ds_75 A_a57 (by decide) (pc' := 76) rfl ?_
  refine g_icmp_ge C S ds_76 (pc' := 114) (pf := 79) (by decide) (by decide) rfl (fun hc76 => absurd (by decide) hc76) (fun hc76 => ?_)
  refine g_aload C S ds_79 (pc' := 81) rfl rfl rfl ?_
  refine g_iload C S ds_81 (pc' := 83) rfl rfl ?_
  refine g_aloadN C S ds_83 (pc' := 84) rfl rfl rfl ?_
  refine g_iload C S ds_84 (pc' := 86) rfl rfl ?_
  refine g_laload C S (i := 0) (v := (.long c0)) ds_86 A_a1 (by decide) (by decide) hc0 (pc' := 87) rfl ?_
  refine g_lconst C S (0 : Int64) ds_87 (pc' := 88) rfl rfl ?_
  refine g_lcmp C S ds_88 (pc' := 89) rfl ?_
  refine g_lif_le C S ds_89 (pc' := 105) (pf := 92) (by decide) (by decide) rfl (fun hc89 => ?_) (fun hc89 => absurd hc89 s0)
  refine g_dload C S ds_105 (pc' := 107) rfl rfl ?_
  refine g_dastore C S (i := 0) ds_107 A_a57 (by decide) (by decide) ge_a57 (pc' := 108) rfl (fun T58 h58 S W58 B58 => ?_)
  have A_a1 := A_a1.other W58 ne_a1_a57
  have A_a2 := A_a2.other W58 ne_a2_a57
  have Zn := Nat.le_trans Zn (Nat.le_of_eq W58.size.symm)
  have A_a57 := B58
  have Kp := Kp.wr W58 (Or.inr sz_a57)
  refine g_iincL C S (1 : Int32) (1 : Int32) ds_108 (pc' := 111) rfl rfl (by decide) rfl (L' := #[.val (.ref a1), .val (.ref a2), .val (.double (FP.dadd (FP.dadd FP.dconst0 (FP.ddiv t1 (FP.l2d c1))) (FP.ddiv t2 (FP.l2d c2)))), .second, .val (.int (2 : Int32)), .val (.double (FP.ddiv (FP.dadd (FP.dadd FP.dconst0 (FP.ddiv t1 (FP.l2d c1))) (FP.ddiv t2 (FP.l2d c2))) (FP.i2d (2 : Int32)))), .second, .val (.ref a57), .val (.int (1 : Int32))]) rfl ?_
  refine g_goto C S ds_111 (pc' := 71) (by decide) (by decide) ?_
  refine g_iload C S ds_71 (pc' := 73) rfl rfl ?_
  refine g_aload C S ds_73 (pc' := 75) rfl rfl rfl ?_
  refine g_arraylength C S (x := (3 : Int32)) ds_75 A_a57 (by decide) (pc' := 76) rfl ?_
  refine g_icmp_ge C S ds_76 (pc' := 114) (pf := 79) (by decide) (by decide) rfl (fun hc76 => absurd (by decide) hc76) (fun hc76 => ?_)
  refine g_aload C S ds_79 (pc' := 81) rfl rfl rfl ?_
  refine g_iload C S ds_81 (pc' := 83) rfl rfl ?_
  refine g_aloadN C S ds_83 (pc' := 84) rfl rfl rfl ?_
  refine g_iload C S ds_84 (pc' := 86) rfl rfl ?_
  refine g_laload C S (i := 1) (v := (.long c1)) ds_86 A_a1 (by decide) (by decide) hc1 (pc' := 87) rfl ?_
  refine g_lconst C S (0 : Int64) ds_87 (pc' := 88) rfl rfl ?_
  refine g_lcmp C S ds_88 (pc' := 89) rfl ?_
  refine g_lif_le C S ds_89 (pc' := 105) (pf := 92) (by decide) (by decide) rfl (fun hc89 => absurd s1 hc89) (fun hc89 => ?_)
  refine g_aloadN C S ds_92 (pc' := 93) rfl rfl rfl ?_
  refine g_iload C S ds_93 (pc' := 95) rfl rfl ?_
  refine g_daload C S (i := 1) (v := (.double t1)) ds_95 A_a2 (by decide) (by decide) ht1 (pc' := 96) rfl ?_
  refine g_aloadN C S ds_96 (pc' := 97) rfl rfl rfl ?_
  refine g_iload C S ds_97 (pc' := 99) rfl rfl ?_
  refine g_laload C S (i := 1) (v := (.long c1)) ds_99 A_a1 (by decide) (by decide) hc1 (pc' := 100) rfl ?_
  refine g_l2d C S ds_100 (pc' := 101) rfl ?_
  refine g_ddiv C S ds_101 (pc' := 102) rfl (nn_of (ddiv_mag (K := 1056) (L := 1023) m1 (l2d_big (own_nz s1)) (by decide) (by decide)) (by decide)) ?_
  refine g_goto C S ds_102 (pc' := 107) (by decide) (by decide) ?_
  refine g_dastore C S (i := 1) ds_107 A_a57 (by decide) (by decide) ge_a57 (pc' := 108) rfl (fun T59 h59 S W59 B59 => ?_)
  have A_a1 := A_a1.other W59 ne_a1_a57
  have A_a2 := A_a2.other W59 ne_a2_a57
  have Zn := Nat.le_trans Zn (Nat.le_of_eq W59.size.symm)
  have A_a57 := B59
  have Kp := Kp.wr W59 (Or.inr sz_a57)
  refine g_iincL C S (1 : Int32) (2 : Int32) ds_108 (pc' := 111) rfl rfl (by decide) rfl (L' := #[.val (.ref a1), .val (.ref a2), .val (.double (FP.dadd (FP.dadd FP.dconst0 (FP.ddiv t1 (FP.l2d c1))) (FP.ddiv t2 (FP.l2d c2)))), .second, .val (.int (2 : Int32)), .val (.double (FP.ddiv (FP.dadd (FP.dadd FP.dconst0 (FP.ddiv t1 (FP.l2d c1))) (FP.ddiv t2 (FP.l2d c2))) (FP.i2d (2 : Int32)))), .second, .val (.ref a57), .val (.int (2 : Int32))]) rfl ?_
  refine g_goto C S ds_111 (pc' := 71) (by decide) (by decide) ?_
  refine g_iload C S ds_71 (pc' := 73) rfl rfl ?_
  refine g_aload C S ds_73 (pc' := 75) rfl rfl rfl ?_
  refine g_arraylength C S (x := (3 : Int32)) ds_75 A_a57 (by decide) (pc' := 76) rfl ?_
  refine g_icmp_ge C S ds_76 (pc' := 114) (pf := 79) (by decide) (by decide) rfl (fun hc76 => absurd (by decide) hc76) (fun hc76 => ?_)
  refine g_aload C S ds_79 (pc' := 81) rfl rfl rfl ?_
  refine g_iload C S ds_81 (pc' := 83) rfl rfl ?_
  refine g_aloadN C S ds_83 (pc' := 84) rfl rfl rfl ?_
  refine g_iload C S ds_84 (pc' := 86) rfl rfl ?_
  refine g_laload C S (i := 2) (v := (.long c2)) ds_86 A_a1 (by decide) (by decide) hc2 (pc' := 87) rfl ?_
  refine g_lconst C S (0 : Int64) ds_87 (pc' := 88) rfl rfl ?_
  refine g_lcmp C S ds_88 (pc' := 89) rfl ?_
  refine g_lif_le C S ds_89 (pc' := 105) (pf := 92) (by decide) (by decide) rfl (fun hc89 => absurd s2 hc89) (fun hc89 => ?_)
  refine g_aloadN C S ds_92 (pc' := 93) rfl rfl rfl ?_
  refine g_iload C S ds_93 (pc' := 95) rfl rfl ?_
  refine g_daload C S (i := 2) (v := (.double t2)) ds_95 A_a2 (by decide) (by decide) ht2 (pc' := 96) rfl ?_
  refine g_aloadN C S ds_96 (pc' := 97) rfl rfl rfl ?_
  refine g_iload C S ds_97 (pc' := 99) rfl rfl ?_
  refine g_laload C S (i := 2) (v := (.long c2)) ds_99 A_a1 (by decide) (by decide) hc2 (pc' := 100) rfl ?_
  refine g_l2d C S ds_100 (pc' := 101) rfl ?_
  refine g_ddiv C S ds_101 (pc' := 102) rfl (nn_of (ddiv_mag (K := 1056) (L := 1023) m2 (l2d_big (own_nz s2)) (by decide) (by decide)) (by decide)) ?_
  refine g_goto C S ds_102 (pc' := 107) (by decide) (by decide) ?_
  refine g_dastore C S (i := 2) ds_107 A_a57 (by decide) (by decide) ge_a57 (pc' := 108) rfl (fun T60 h60 S W60 B60 => ?_)
  have A_a1 := A_a1.other W60 ne_a1_a57
  have A_a2 := A_a2.other W60 ne_a2_a57
  have Zn := Nat.le_trans Zn (Nat.le_of_eq W60.size.symm)
  have A_a57 := B60
  have Kp := Kp.wr W60 (Or.inr sz_a57)
  refine g_iincL C S (1 : Int32) (3 : Int32) ds_108 (pc' := 111) rfl rfl (by decide) rfl (L' := #[.val (.ref a1), .val (.ref a2), .val (.double (FP.dadd (FP.dadd FP.dconst0 (FP.ddiv t1 (FP.l2d c1))) (FP.ddiv t2 (FP.l2d c2)))), .second, .val (.int (2 : Int32)), .val (.double (FP.ddiv (FP.dadd (FP.dadd FP.dconst0 (FP.ddiv t1 (FP.l2d c1))) (FP.ddiv t2 (FP.l2d c2))) (FP.i2d (2 : Int32)))), .second, .val (.ref a57), .val (.int (3 : Int32))]) rfl ?_
  refine g_goto C S ds_111 (pc' := 71) (by decide) (by decide) ?_
  refine g_iload C S ds_71 (pc' := 73) rfl rfl ?_
  refine g_aload C S ds_73 (pc' := 75) rfl rfl rfl ?_
  refine g_arraylength C S (x := (3 : Int32)) ds_75 A_a57 (by decide) (pc' := 76) rfl ?_
  refine g_icmp_ge C S ds_76 (pc' := 114) (pf := 79) (by decide) (by decide) rfl (fun hc76 => ?_) (fun hc76 => absurd hc76 (by decide))
  refine g_aload C S ds_114 (pc' := 116) rfl rfl rfl ?_
  exact g_retA C S ds_116 rfl rfl rfl (by decide) (by decide) (⟨a57, _, rfl, ge_a57, sz_a57, Kp, A_a57, rfl, rfl, rfl⟩)
set_option maxRecDepth 65536 in
set_option maxHeartbeats 40000000 in
theorem c_wt011 (l : Launch) (Z : State) (a0 : Array Value) (hw : ∀ d ∈ tables_1, d.before a0 Z = true) (a1 : Addr) (a2 : Addr) (a3 : Addr) (h0 : Heap) (n0 : Nat) (c0 c1 c2 : Int64) (t0 t1 t2 : UInt64) (fc ft : Nat → Value) (m0 : Jvm.Free.Fl.Mag64 1056 t0) (m1 : Jvm.Free.Fl.Mag64 1056 t1) (m2 : Jvm.Free.Fl.Mag64 1056 t2) (hc0 : fc 0 = .long c0) (hc1 : fc 1 = .long c1) (hc2 : fc 2 = .long c2) (ht0 : ft 0 = .double t0) (ht1 : ft 1 = .double t1) (ht2 : ft 2 = .double t2) (q0 q1 q2 : Int64) (fq : Nat → Value) (hq0 : fq 0 = .long q0) (hq1 : fq 1 = .long q1) (hq2 : fq 2 = .long q2) (s0 : ¬ (0 : Int64) < c0) (s1 : (0 : Int64) < c1) (s2 : (0 : Int64) < c2) (Zn : n0 ≤ h0.size) (A_a1 : Ary Z h0 a1 .long 3 fq) (A_a2 : Ary Z h0 a2 .long 3 fc) (A_a3 : Ary Z h0 a3 .double 3 ft) :
    Con l Z (⟨"com/example/tuned_conveyor/tunedconveyor/Allocation", "weights", "([J[J[D)[D"⟩ : MethodName) prog_1_method_17_code 6 (some (.array .double)) ({ frames := 1, cells := 2, slots := 6, locals := 20 } : Room) #[(.ref a1), (.ref a2), (.ref a3)] h0 n0 (fun v h => ∃ (b : Addr) (f : Nat → Value), v = some (.ref b) ∧ n0 ≤ b ∧ h0.size ≤ b ∧ Ary Z h b .double 3 f ∧ f 0 = .double (FP.dmul (FP.l2d q0) (FP.ddiv (FP.dadd (FP.dadd FP.dconst0 (FP.ddiv t1 (FP.l2d c1))) (FP.ddiv t2 (FP.l2d c2))) (FP.i2d (((0 : Int32) + (1 : Int32)) + (1 : Int32))))) ∧ f 1 = .double (FP.dmul (FP.l2d q1) (FP.ddiv t1 (FP.l2d c1))) ∧ f 2 = .double (FP.dmul (FP.l2d q2) (FP.ddiv t2 (FP.l2d c2)))) := by
  refine Con.of (plainFor_of_name (by first | (simp [plainName, overriddenIn]; done) | decide +kernel)) (L0 := #[.val (.ref a1), .val (.ref a2), .val (.ref a3), .unset, .unset, .unset]) (fun m => by first | (simp [entryFrame, mkF, argsToLocals, Value.category]; done) | rfl) ?_
  intro p e s m below meth c T C S
  have Kp := Keep.refl h0 []
  have lt_a1 := A_a1.lt
  refine g_aloadN C S dw_0 (pc' := 1) rfl rfl rfl ?_
  refine g_aloadN C S dw_1 (pc' := 2) rfl rfl rfl ?_
  refine g_callS C S (rm := ({ frames := 0, cells := 1, slots := 3, locals := 0 } : Room)) (W := 0) dw_2 (hw _ (List.mem_of_getElem? (i := 9) rfl)) (hw _ (List.mem_of_getElem? (i := 10) rfl)) (hw _ (List.mem_of_getElem? (i := 7) rfl)) (hw _ (List.mem_of_getElem? (i := 11) rfl)) (by decide) (c_st011 l Z a0 hw a2 a3 h0 n0 c0 c1 c2 t0 t1 t2 fc ft m0 m1 m2 hc0 hc1 hc2 ht0 ht1 ht2 s0 s1 s2 Zn A_a2 A_a3) (argsL := [(.ref a2), (.ref a3)]) (r := []) rfl (lenOf pd_0 rfl) rfl (Nat.le_of_eq rfl) (by decide) (by decide) (by decide) (by decide) (pc' := 5) rfl (fun T61 h61 v61 q61 S => ?_)
  obtain ⟨b61, fs, rfl, ge_b61, sz_b61, K61, A_b61, hs0, hs1, hs2⟩ := q61
  have Kp := Kp.trans K61 all0
  have A_a1 := A_a1.keep K61 nin0
  have Zn := Nat.le_trans Zn K61.1
  have ne_a1_b61 : a1 ≠ b61 := Nat.ne_of_lt (Nat.lt_of_lt_of_le lt_a1 sz_b61)
  show Gl p e below s _ n0 _ T61 (mkF m 5 #[.val (.ref a1), .val (.ref a2), .val (.ref a3), .unset, .unset, .unset] [(.ref b61)])
  refine g_astoreN C S dw_5 (pc' := 6) rfl rfl (L' := #[.val (.ref a1), .val (.ref a2), .val (.ref a3), .val (.ref b61), .unset, .unset]) rfl ?_
  refine g_aloadN C S dw_6 (pc' := 7) rfl rfl rfl ?_
  refine g_arraylength C S (x := (3 : Int32)) dw_7 A_b61 (by decide) (pc' := 8) rfl ?_
  refine g_newarray C S (N := 3) (cap := 3) dw_8 (hw _ (List.mem_of_getElem? (i := 4) rfl)) (by decide) (by decide) (by decide) (by decide) (by decide) (pc' := 10) rfl (fun T62 h62 a62 S g62 E62 A_a62 => ?_)
  have ne_a1_a62 : a1 ≠ a62 := ne_new g62 A_a1.lt
  have ne_b61_a62 : b61 ≠ a62 := ne_new g62 A_b61.lt
  have sz_a62 : h0.size ≤ a62 := ge_of g62 Kp.1
  have ge_a62 : n0 ≤ a62 := ge_of g62 Zn
  have Kp := Kp.ext E62
  have A_a1 := A_a1.ext E62
  have Zn := Nat.le_trans Zn E62.1
  have A_b61 := A_b61.ext E62
  have A_a62 : Ary Z h62 a62 .double 3 (fun _ => (.double 0)) := A_a62
  refine g_astore C S dw_10 (pc' := 12) rfl rfl (L' := #[.val (.ref a1), .val (.ref a2), .val (.ref a3), .val (.ref b61), .val (.ref a62), .unset]) rfl ?_
  refine g_iconst C S (0 : Int32) dw_12 (pc' := 13) rfl rfl ?_
  refine g_istore C S dw_13 (pc' := 15) rfl (L' := #[.val (.ref a1), .val (.ref a2), .val (.ref a3), .val (.ref b61), .val (.ref a62), .val (.int (0 : Int32))]) rfl ?_
  refine g_iload C S dw_15 (pc' := 17) rfl rfl ?_
  refine g_aload C S dw_17 (pc' := 19) rfl rfl rfl ?_
  refine g_arraylength C S (x := (3 : Int32)) dw_19 A_a62 (by decide) (pc' := 20) rfl ?_
  refine g_icmp_ge C S dw_20 (pc' := 44) (pf := 23) (by decide) (by decide) rfl (fun hc20 => absurd (by decide) hc20) (fun hc20 => ?_)
  refine g_aload C S dw_23 (pc' := 25) rfl rfl rfl ?_
  refine g_iload C S dw_25 (pc' := 27) rfl rfl ?_
  refine g_aloadN C S dw_27 (pc' := 28) rfl rfl rfl ?_
  refine g_iload C S dw_28 (pc' := 30) rfl rfl ?_
  refine g_laload C S (i := 0) (v := (.long q0)) dw_30 A_a1 (by decide) (by decide) hq0 (pc' := 31) rfl ?_
  refine g_l2d C S dw_31 (pc' := 32) rfl ?_
  refine g_aloadN C S dw_32 (pc' := 33) rfl rfl rfl ?_
  refine g_iload C S dw_33 (pc' := 35) rfl rfl ?_
  refine g_daload C S (i := 0) (v := (.double (FP.ddiv (FP.dadd (FP.dadd FP.dconst0 (FP.ddiv t1 (FP.l2d c1))) (FP.ddiv t2 (FP.l2d c2))) (FP.i2d (((0 : Int32) + (1 : Int32)) + (1 : Int32)))))) dw_35 A_b61 (by decide) (by decide) hs0 (pc' := 36) rfl ?_
  refine g_dmul C S dw_36 (pc' := 37) rfl (nn_of (Jvm.Free.Fl.dmul_mag (Ka := 1088) (Kb := 1062) (Jvm.Free.Fl.l2d_mag _) (ddiv_mag (K := 1061) (L := 1023) (Jvm.Free.Fl.dadd_mag (K := 1059) (Jvm.Free.Fl.Mag64.mono (Jvm.Free.Fl.dadd_mag (K := 1057) (Jvm.Free.Fl.Mag64.mono own_mag0 (by decide)) (Jvm.Free.Fl.Mag64.mono (ddiv_mag (K := 1056) (L := 1023) m1 (l2d_big (own_nz s1)) (by decide) (by decide)) (by decide)) (by decide)) (by decide)) (Jvm.Free.Fl.Mag64.mono (ddiv_mag (K := 1056) (L := 1023) m2 (l2d_big (own_nz s2)) (by decide) (by decide)) (by decide)) (by decide)) (own_i2d (by decide)) (by decide) (by decide)) (by decide) (by decide)) (by decide)) ?_
  refine g_dastore C S (i := 0) dw_37 A_a62 (by decide) (by decide) ge_a62 (pc' := 38) rfl (fun T63 h63 S W63 B63 => ?_)
  have A_a1 := A_a1.other W63 ne_a1_a62
  have Zn := Nat.le_trans Zn (Nat.le_of_eq W63.size.symm)
  have A_b61 := A_b61.other W63 ne_b61_a62
  have A_a62 := B63
  have Kp := Kp.wr W63 (Or.inr sz_a62)
  refine g_iincL C S (1 : Int32) (1 : Int32) dw_38 (pc' := 41) rfl rfl (by decide) rfl (L' := #[.val (.ref a1), .val (.ref a2), .val (.ref a3), .val (.ref b61), .val (.ref a62), .val (.int (1 : Int32))]) rfl ?_
  refine g_goto C S dw_41 (pc' := 15) (by decide) (by decide) ?_
  refine g_iload C S dw_15 (pc' := 17) rfl rfl ?_
  refine g_aload C S dw_17 (pc' := 19) rfl rfl rfl ?_
  refine g_arraylength C S (x := (3 : Int32)) dw_19 A_a62 (by decide) (pc' := 20) rfl ?_
  refine g_icmp_ge C S dw_20 (pc' := 44) (pf := 23) (by decide) (by decide) rfl (fun hc20 => absurd (by decide) hc20) (fun hc20 => ?_)
  refine g_aload C S dw_23 (pc' := 25) rfl rfl rfl ?_
  refine g_iload C S dw_25 (pc' := 27) rfl rfl ?_
  refine g_aloadN C S dw_27 (pc' := 28) rfl rfl rfl ?_
  refine g_iload C S dw_28 (pc' := 30) rfl rfl ?_
  refine g_laload C S (i := 1) (v := (.long q1)) dw_30 A_a1 (by decide) (by decide) hq1 (pc' := 31) rfl ?_
  refine g_l2d C S dw_31 (pc' := 32) rfl ?_
  refine g_aloadN C S dw_32 (pc' := 33) rfl rfl rfl ?_
  refine g_iload C S dw_33 (pc' := 35) rfl rfl ?_
  refine g_daload C S (i := 1) (v := (.double (FP.ddiv t1 (FP.l2d c1)))) dw_35 A_b61 (by decide) (by decide) hs1 (pc' := 36) rfl ?_
  refine g_dmul C S dw_36 (pc' := 37) rfl (nn_of (Jvm.Free.Fl.dmul_mag (Ka := 1088) (Kb := 1057) (Jvm.Free.Fl.l2d_mag _) (ddiv_mag (K := 1056) (L := 1023) m1 (l2d_big (own_nz s1)) (by decide) (by decide)) (by decide) (by decide)) (by decide)) ?_
  refine g_dastore C S (i := 1) dw_37 A_a62 (by decide) (by decide) ge_a62 (pc' := 38) rfl (fun T64 h64 S W64 B64 => ?_)
  have A_a1 := A_a1.other W64 ne_a1_a62
  have Zn := Nat.le_trans Zn (Nat.le_of_eq W64.size.symm)
  have A_b61 := A_b61.other W64 ne_b61_a62
  have A_a62 := B64
  have Kp := Kp.wr W64 (Or.inr sz_a62)
  refine g_iincL C S (1 : Int32) (2 : Int32) dw_38 (pc' := 41) rfl rfl (by decide) rfl (L' := #[.val (.ref a1), .val (.ref a2), .val (.ref a3), .val (.ref b61), .val (.ref a62), .val (.int (2 : Int32))]) rfl ?_
  refine g_goto C S dw_41 (pc' := 15) (by decide) (by decide) ?_
  refine g_iload C S dw_15 (pc' := 17) rfl rfl ?_
  refine g_aload C S dw_17 (pc' := 19) rfl rfl rfl ?_
  refine g_arraylength C S (x := (3 : Int32)) dw_19 A_a62 (by decide) (pc' := 20) rfl ?_
  refine g_icmp_ge C S dw_20 (pc' := 44) (pf := 23) (by decide) (by decide) rfl (fun hc20 => absurd (by decide) hc20) (fun hc20 => ?_)
  refine g_aload C S dw_23 (pc' := 25) rfl rfl rfl ?_
  refine g_iload C S dw_25 (pc' := 27) rfl rfl ?_
  refine g_aloadN C S dw_27 (pc' := 28) rfl rfl rfl ?_
  refine g_iload C S dw_28 (pc' := 30) rfl rfl ?_
  refine g_laload C S (i := 2) (v := (.long q2)) dw_30 A_a1 (by decide) (by decide) hq2 (pc' := 31) rfl ?_
  refine g_l2d C S dw_31 (pc' := 32) rfl ?_
  refine g_aloadN C S dw_32 (pc' := 33) rfl rfl rfl ?_
  refine g_iload C S dw_33 (pc' := 35) rfl rfl ?_
  refine g_daload C S (i := 2) (v := (.double (FP.ddiv t2 (FP.l2d c2)))) dw_35 A_b61 (by decide) (by decide) hs2 (pc' := 36) rfl ?_
  refine g_dmul C S dw_36 (pc' := 37) rfl (nn_of (Jvm.Free.Fl.dmul_mag (Ka := 1088) (Kb := 1057) (Jvm.Free.Fl.l2d_mag _) (ddiv_mag (K := 1056) (L := 1023) m2 (l2d_big (own_nz s2)) (by decide) (by decide)) (by decide) (by decide)) (by decide)) ?_
  refine g_dastore C S (i := 2) dw_37 A_a62 (by decide) (by decide) ge_a62 (pc' := 38) rfl (fun T65 h65 S W65 B65 => ?_)
  have A_a1 := A_a1.other W65 ne_a1_a62
  have Zn := Nat.le_trans Zn (Nat.le_of_eq W65.size.symm)
  have A_b61 := A_b61.other W65 ne_b61_a62
  have A_a62 := B65
  have Kp := Kp.wr W65 (Or.inr sz_a62)
  refine g_iincL C S (1 : Int32) (3 : Int32) dw_38 (pc' := 41) rfl rfl (by decide) rfl (L' := #[.val (.ref a1), .val (.ref a2), .val (.ref a3), .val (.ref b61), .val (.ref a62), .val (.int (3 : Int32))]) rfl ?_
  refine g_goto C S dw_41 (pc' := 15) (by decide) (by decide) ?_
  refine g_iload C S dw_15 (pc' := 17) rfl rfl ?_
  refine g_aload C S dw_17 (pc' := 19) rfl rfl rfl ?_
  refine g_arraylength C S (x := (3 : Int32)) dw_19 A_a62 (by decide) (pc' := 20) rfl ?_
  refine g_icmp_ge C S dw_20 (pc' := 44) (pf := 23) (by decide) (by decide) rfl (fun hc20 => ?_) (fun hc20 => absurd hc20 (by decide))
  refine g_aload C S dw_44 (pc' := 46) rfl rfl rfl ?_
  exact g_retA C S dw_46 rfl rfl rfl (by decide) (by decide) (⟨a62, _, rfl, ge_a62, sz_a62, A_a62, rfl, rfl, rfl⟩)
set_option maxRecDepth 65536 in
set_option maxHeartbeats 40000000 in
theorem c_st010 (l : Launch) (Z : State) (a0 : Array Value) (hw : ∀ d ∈ tables_1, d.before a0 Z = true) (a1 : Addr) (a2 : Addr) (h0 : Heap) (n0 : Nat) (c0 c1 c2 : Int64) (t0 t1 t2 : UInt64) (fc ft : Nat → Value) (m0 : Jvm.Free.Fl.Mag64 1056 t0) (m1 : Jvm.Free.Fl.Mag64 1056 t1) (m2 : Jvm.Free.Fl.Mag64 1056 t2) (hc0 : fc 0 = .long c0) (hc1 : fc 1 = .long c1) (hc2 : fc 2 = .long c2) (ht0 : ft 0 = .double t0) (ht1 : ft 1 = .double t1) (ht2 : ft 2 = .double t2) (s0 : ¬ (0 : Int64) < c0) (s1 : (0 : Int64) < c1) (s2 : ¬ (0 : Int64) < c2) (Zn : n0 ≤ h0.size) (A_a1 : Ary Z h0 a1 .long 3 fc) (A_a2 : Ary Z h0 a2 .double 3 ft) :
    Con l Z (⟨"com/example/tuned_conveyor/tunedconveyor/Allocation", "serviceTimes", "([J[D)[D"⟩ : MethodName) prog_1_method_18_code 9 (some (.array .double)) ({ frames := 0, cells := 1, slots := 3, locals := 0 } : Room) #[(.ref a1), (.ref a2)] h0 n0 (fun v h => ∃ (b : Addr) (f : Nat → Value), v = some (.ref b) ∧ n0 ≤ b ∧ h0.size ≤ b ∧ Keep h0 h [] ∧ Ary Z h b .double 3 f ∧ f 0 = .double (FP.ddiv (FP.dadd FP.dconst0 (FP.ddiv t1 (FP.l2d c1))) (FP.i2d ((0 : Int32) + (1 : Int32)))) ∧ f 1 = .double (FP.ddiv t1 (FP.l2d c1)) ∧ f 2 = .double (FP.ddiv (FP.dadd FP.dconst0 (FP.ddiv t1 (FP.l2d c1))) (FP.i2d ((0 : Int32) + (1 : Int32))))) := by
  refine Con.of (plainFor_of_name (by first | (simp [plainName, overriddenIn]; done) | decide +kernel)) (L0 := #[.val (.ref a1), .val (.ref a2), .unset, .unset, .unset, .unset, .unset, .unset, .unset]) (fun m => by first | (simp [entryFrame, mkF, argsToLocals, Value.category]; done) | rfl) ?_
  intro p e s m below meth c T C S
  have Kp := Keep.refl h0 []
  refine g_dconst0 C S ds_0 (pc' := 1) rfl ?_
  refine g_dstoreN C S ds_1 (pc' := 2) rfl (L' := #[.val (.ref a1), .val (.ref a2), .val (.double FP.dconst0), .second, .unset, .unset, .unset, .unset, .unset]) rfl ?_
  refine g_iconst C S (0 : Int32) ds_2 (pc' := 3) rfl rfl ?_
  refine g_istore C S ds_3 (pc' := 5) rfl (L' := #[.val (.ref a1), .val (.ref a2), .val (.double FP.dconst0), .second, .val (.int (0 : Int32)), .unset, .unset, .unset, .unset]) rfl ?_
  refine g_iconst C S (0 : Int32) ds_5 (pc' := 6) rfl rfl ?_
  refine g_istore C S ds_6 (pc' := 8) rfl (L' := #[.val (.ref a1), .val (.ref a2), .val (.double FP.dconst0), .second, .val (.int (0 : Int32)), .val (.int (0 : Int32)), .unset, .unset, .unset]) rfl ?_
  refine g_iload C S ds_8 (pc' := 10) rfl rfl ?_
  refine g_aloadN C S ds_10 (pc' := 11) rfl rfl rfl ?_
  refine g_arraylength C S (x := (3 : Int32)) ds_11 A_a1 (by decide) (pc' := 12) rfl ?_
  refine g_icmp_ge C S ds_12 (pc' := 46) (pf := 15) (by decide) (by decide) rfl (fun hc12 => absurd (by decide) hc12) (fun hc12 => ?_)
  refine g_aloadN C S ds_15 (pc' := 16) rfl rfl rfl ?_
  refine g_iload C S ds_16 (pc' := 18) rfl rfl ?_
  refine g_laload C S (i := 0) (v := (.long c0)) ds_18 A_a1 (by decide) (by decide) hc0 (pc' := 19) rfl ?_
  refine g_lconst C S (0 : Int64) ds_19 (pc' := 20) rfl rfl ?_
  refine g_lcmp C S ds_20 (pc' := 21) rfl ?_
  refine g_lif_le C S ds_21 (pc' := 40) (pf := 24) (by decide) (by decide) rfl (fun hc21 => ?_) (fun hc21 => absurd hc21 s0)
  refine g_iincL C S (1 : Int32) (1 : Int32) ds_40 (pc' := 43) rfl rfl (by decide) rfl (L' := #[.val (.ref a1), .val (.ref a2), .val (.double FP.dconst0), .second, .val (.int (0 : Int32)), .val (.int (1 : Int32)), .unset, .unset, .unset]) rfl ?_
  refine g_goto C S ds_43 (pc' := 8) (by decide) (by decide) ?_
  refine g_iload C S ds_8 (pc' := 10) rfl rfl ?_
  refine g_aloadN C S ds_10 (pc' := 11) rfl rfl rfl ?_
  refine g_arraylength C S (x := (3 : Int32)) ds_11 A_a1 (by decide) (pc' := 12) rfl ?_
  refine g_icmp_ge C S ds_12 (pc' := 46) (pf := 15) (by decide) (by decide) rfl (fun hc12 => absurd (by decide) hc12) (fun hc12 => ?_)
  refine g_aloadN C S ds_15 (pc' := 16) rfl rfl rfl ?_
  refine g_iload C S ds_16 (pc' := 18) rfl rfl ?_
  refine g_laload C S (i := 1) (v := (.long c1)) ds_18 A_a1 (by decide) (by decide) hc1 (pc' := 19) rfl ?_
  refine g_lconst C S (0 : Int64) ds_19 (pc' := 20) rfl rfl ?_
  refine g_lcmp C S ds_20 (pc' := 21) rfl ?_
  refine g_lif_le C S ds_21 (pc' := 40) (pf := 24) (by decide) (by decide) rfl (fun hc21 => absurd s1 hc21) (fun hc21 => ?_)
  refine g_dloadN C S ds_24 (pc' := 25) rfl rfl ?_
  refine g_aloadN C S ds_25 (pc' := 26) rfl rfl rfl ?_
  refine g_iload C S ds_26 (pc' := 28) rfl rfl ?_
  refine g_daload C S (i := 1) (v := (.double t1)) ds_28 A_a2 (by decide) (by decide) ht1 (pc' := 29) rfl ?_
  refine g_aloadN C S ds_29 (pc' := 30) rfl rfl rfl ?_
  refine g_iload C S ds_30 (pc' := 32) rfl rfl ?_
  refine g_laload C S (i := 1) (v := (.long c1)) ds_32 A_a1 (by decide) (by decide) hc1 (pc' := 33) rfl ?_
  refine g_l2d C S ds_33 (pc' := 34) rfl ?_
  refine g_ddiv C S ds_34 (pc' := 35) rfl (nn_of (ddiv_mag (K := 1056) (L := 1023) m1 (l2d_big (own_nz s1)) (by decide) (by decide)) (by decide)) ?_
  refine g_dadd C S ds_35 (pc' := 36) rfl (nn_of (Jvm.Free.Fl.dadd_mag (K := 1057) (Jvm.Free.Fl.Mag64.mono own_mag0 (by decide)) (Jvm.Free.Fl.Mag64.mono (ddiv_mag (K := 1056) (L := 1023) m1 (l2d_big (own_nz s1)) (by decide) (by decide)) (by decide)) (by decide)) (by decide)) ?_
  refine g_dstoreN C S ds_36 (pc' := 37) rfl (L' := #[.val (.ref a1), .val (.ref a2), .val (.double (FP.dadd FP.dconst0 (FP.ddiv t1 (FP.l2d c1)))), .second, .val (.int (0 : Int32)), .val (.int (1 : Int32)), .unset, .unset, .unset]) rfl ?_
  refine g_iincL C S (1 : Int32) (1 : Int32) ds_37 (pc' := 40) rfl rfl (by decide) rfl (L' := #[.val (.ref a1), .val (.ref a2), .val (.double (FP.dadd FP.dconst0 (FP.ddiv t1 (FP.l2d c1)))), .second, .val (.int (1 : Int32)), .val (.int (1 : Int32)), .unset, .unset, .unset]) rfl ?_
  refine g_iincL C S (1 : Int32) (2 : Int32) ds_40 (pc' := 43) rfl rfl (by decide) rfl (L' := #[.val (.ref a1), .val (.ref a2), .val (.double (FP.dadd FP.dconst0 (FP.ddiv t1 (FP.l2d c1)))), .second, .val (.int (1 : Int32)), .val (.int (2 : Int32)), .unset, .unset, .unset]) rfl ?_
  refine g_goto C S ds_43 (pc' := 8) (by decide) (by decide) ?_
  refine g_iload C S ds_8 (pc' := 10) rfl rfl ?_
  refine g_aloadN C S ds_10 (pc' := 11) rfl rfl rfl ?_
  refine g_arraylength C S (x := (3 : Int32)) ds_11 A_a1 (by decide) (pc' := 12) rfl ?_
  refine g_icmp_ge C S ds_12 (pc' := 46) (pf := 15) (by decide) (by decide) rfl (fun hc12 => absurd (by decide) hc12) (fun hc12 => ?_)
  refine g_aloadN C S ds_15 (pc' := 16) rfl rfl rfl ?_
  refine g_iload C S ds_16 (pc' := 18) rfl rfl ?_
  refine g_laload C S (i := 2) (v := (.long c2)) ds_18 A_a1 (by decide) (by decide) hc2 (pc' := 19) rfl ?_
  refine g_lconst C S (0 : Int64) ds_19 (pc' := 20) rfl rfl ?_
  refine g_lcmp C S ds_20 (pc' := 21) rfl ?_
  refine g_lif_le C S ds_21 (pc' := 40) (pf := 24) (by decide) (by decide) rfl (fun hc21 => ?_) (fun hc21 => absurd hc21 s2)
  refine g_iincL C S (1 : Int32) (3 : Int32) ds_40 (pc' := 43) rfl rfl (by decide) rfl (L' := #[.val (.ref a1), .val (.ref a2), .val (.double (FP.dadd FP.dconst0 (FP.ddiv t1 (FP.l2d c1)))), .second, .val (.int (1 : Int32)), .val (.int (3 : Int32)), .unset, .unset, .unset]) rfl ?_
  refine g_goto C S ds_43 (pc' := 8) (by decide) (by decide) ?_
  refine g_iload C S ds_8 (pc' := 10) rfl rfl ?_
  refine g_aloadN C S ds_10 (pc' := 11) rfl rfl rfl ?_
  refine g_arraylength C S (x := (3 : Int32)) ds_11 A_a1 (by decide) (pc' := 12) rfl ?_
  refine g_icmp_ge C S ds_12 (pc' := 46) (pf := 15) (by decide) (by decide) rfl (fun hc12 => ?_) (fun hc12 => absurd hc12 (by decide))
  refine g_iload C S ds_46 (pc' := 48) rfl rfl ?_
  refine g_if_ne C S ds_48 (pc' := 55) (pf := 51) (by decide) (by decide) rfl (fun hc48 => ?_) (fun hc48 => absurd hc48 (by decide))
  refine g_dloadN C S ds_55 (pc' := 56) rfl rfl ?_
  refine g_iload C S ds_56 (pc' := 58) rfl rfl ?_
  refine g_i2d C S ds_58 (pc' := 59) rfl ?_
  refine g_ddiv C S ds_59 (pc' := 60) rfl (nn_of (ddiv_mag (K := 1059) (L := 1023) (Jvm.Free.Fl.dadd_mag (K := 1057) (Jvm.Free.Fl.Mag64.mono own_mag0 (by decide)) (Jvm.Free.Fl.Mag64.mono (ddiv_mag (K := 1056) (L := 1023) m1 (l2d_big (own_nz s1)) (by decide) (by decide)) (by decide)) (by decide)) (own_i2d (by decide)) (by decide) (by decide)) (by decide)) ?_
  refine g_dstore C S ds_60 (pc' := 62) rfl (L' := #[.val (.ref a1), .val (.ref a2), .val (.double (FP.dadd FP.dconst0 (FP.ddiv t1 (FP.l2d c1)))), .second, .val (.int (1 : Int32)), .val (.double (FP.ddiv (FP.dadd FP.dconst0 (FP.ddiv t1 (FP.l2d c1))) (FP.i2d (1 : Int32)))), .second, .unset, .unset]) rfl ?_
  refine g_aloadN C S ds_62 (pc' := 63) rfl rfl rfl ?_
  refine g_arraylength C S (x := (3 : Int32)) ds_63 A_a1 (by decide) (pc' := 64) rfl ?_
  refine g_newarray C S (N := 3) (cap := 3) ds_64 (hw _ (List.mem_of_getElem? (i := 4) rfl)) (by decide) (by decide) (by decide) (by decide) (by decide) (pc' := 66) rfl (fun T66 h66 a66 S g66 E66 A_a66 => ?_)
  have ne_a1_a66 : a1 ≠ a66 := ne_new g66 A_a1.lt
  have ne_a2_a66 : a2 ≠ a66 := ne_new g66 A_a2.lt
  have sz_a66 : h0.size ≤ a66 := ge_of g66 Kp.1
  have ge_a66 : n0 ≤ a66 := ge_of g66 Zn
  have Kp := Kp.ext E66
  have A_a1 := A_a1.ext E66
  have A_a2 := A_a2.ext E66
  have Zn := Nat.le_trans Zn E66.1
  have A_a66 : Ary Z h66 a66 .double 3 (fun _ => (.double 0)) := A_a66
  refine g_astore C S ds_66 (pc' := 68) rfl rfl (L' := #[.val (.ref a1), .val (.ref a2), .val (.double (FP.dadd FP.dconst0 (FP.ddiv t1 (FP.l2d c1)))), .second, .val (.int (1 : Int32)), .val (.double (FP.ddiv (FP.dadd FP.dconst0 (FP.ddiv t1 (FP.l2d c1))) (FP.i2d (1 : Int32)))), .second, .val (.ref a66), .unset]) rfl ?_
  refine g_iconst C S (0 : Int32) ds_68 (pc' := 69) rfl rfl ?_
  refine g_istore C S ds_69 (pc' := 71) rfl (L' := #[.val (.ref a1), .val (.ref a2), .val (.double (FP.dadd FP.dconst0 (FP.ddiv t1 (FP.l2d c1)))), .second, .val (.int (1 : Int32)), .val (.double (FP.ddiv (FP.dadd FP.dconst0 (FP.ddiv t1 (FP.l2d c1))) (FP.i2d (1 : Int32)))), .second, .val (.ref a66), .val (.int (0 : Int32))]) rfl ?_
  refine g_iload C S ds_71 (pc' := 73) rfl rfl ?_
  refine g_aload C S ds_73 (pc' := 75) rfl rfl rfl ?_
  refine g_arraylength C S (x := (3 : Int32)) ds_75 A_a66 (by decide) (pc' := 76) rfl ?_
  refine g_icmp_ge C S ds_76 (pc' := 114) (pf := 79) (by decide) (by decide) rfl (fun hc76 => absurd (by decide) hc76) (fun hc76 => ?_)
  refine g_aload C S ds_79 (pc' := 81) rfl rfl rfl ?_
  refine g_iload C S ds_81 (pc' := 83) rfl rfl ?_
  refine g_aloadN C S ds_83 (pc' := 84) rfl rfl rfl ?_
  refine g_iload C S ds_84 (pc' := 86) rfl rfl ?_
  refine g_laload C S (i := 0) (v := (.long c0)) ds_86 A_a1 (by decide) (by decide) hc0 (pc' := 87) rfl ?_
  refine g_lconst C S (0 : Int64) ds_87 (pc' := 88) rfl rfl ?_
  refine g_lcmp C S ds_88 (pc' := 89) rfl ?_
  refine g_lif_le C S ds_89 (pc' := 105) (pf := 92) (by decide) (by decide) rfl (fun hc89 => ?_) (fun hc89 => absurd hc89 s0)
  refine g_dload C S ds_105 (pc' := 107) rfl rfl ?_
  refine g_dastore C S (i := 0) ds_107 A_a66 (by decide) (by decide) ge_a66 (pc' := 108) rfl (fun T67 h67 S W67 B67 => ?_)
  have A_a1 := A_a1.other W67 ne_a1_a66
  have A_a2 := A_a2.other W67 ne_a2_a66
  have Zn := Nat.le_trans Zn (Nat.le_of_eq W67.size.symm)
  have A_a66 := B67
  have Kp := Kp.wr W67 (Or.inr sz_a66)
  refine g_iincL C S (1 : Int32) (1 : Int32) ds_108 (pc' := 111) rfl rfl (by decide) rfl (L' := #[.val (.ref a1), .val (.ref a2), .val (.double (FP.dadd FP.dconst0 (FP.ddiv t1 (FP.l2d c1)))), .second, .val (.int (1 : Int32)), .val (.double (FP.ddiv (FP.dadd FP.dconst0 (FP.ddiv t1 (FP.l2d c1))) (FP.i2d (1 : Int32)))), .second, .val (.ref a66), .val (.int (1 : Int32))]) rfl ?_
  refine g_goto C S ds_111 (pc' := 71) (by decide) (by decide) ?_
  refine g_iload C S ds_71 (pc' := 73) rfl rfl ?_
  refine g_aload C S ds_73 (pc' := 75) rfl rfl rfl ?_
  refine g_arraylength C S (x := (3 : Int32)) ds_75 A_a66 (by decide) (pc' := 76) rfl ?_
  refine g_icmp_ge C S ds_76 (pc' := 114) (pf := 79) (by decide) (by decide) rfl (fun hc76 => absurd (by decide) hc76) (fun hc76 => ?_)
  refine g_aload C S ds_79 (pc' := 81) rfl rfl rfl ?_
  refine g_iload C S ds_81 (pc' := 83) rfl rfl ?_
  refine g_aloadN C S ds_83 (pc' := 84) rfl rfl rfl ?_
  refine g_iload C S ds_84 (pc' := 86) rfl rfl ?_
  refine g_laload C S (i := 1) (v := (.long c1)) ds_86 A_a1 (by decide) (by decide) hc1 (pc' := 87) rfl ?_
  refine g_lconst C S (0 : Int64) ds_87 (pc' := 88) rfl rfl ?_
  refine g_lcmp C S ds_88 (pc' := 89) rfl ?_
  refine g_lif_le C S ds_89 (pc' := 105) (pf := 92) (by decide) (by decide) rfl (fun hc89 => absurd s1 hc89) (fun hc89 => ?_)
  refine g_aloadN C S ds_92 (pc' := 93) rfl rfl rfl ?_
  refine g_iload C S ds_93 (pc' := 95) rfl rfl ?_
  refine g_daload C S (i := 1) (v := (.double t1)) ds_95 A_a2 (by decide) (by decide) ht1 (pc' := 96) rfl ?_
  refine g_aloadN C S ds_96 (pc' := 97) rfl rfl rfl ?_
  refine g_iload C S ds_97 (pc' := 99) rfl rfl ?_
  refine g_laload C S (i := 1) (v := (.long c1)) ds_99 A_a1 (by decide) (by decide) hc1 (pc' := 100) rfl ?_
  refine g_l2d C S ds_100 (pc' := 101) rfl ?_
  refine g_ddiv C S ds_101 (pc' := 102) rfl (nn_of (ddiv_mag (K := 1056) (L := 1023) m1 (l2d_big (own_nz s1)) (by decide) (by decide)) (by decide)) ?_
  refine g_goto C S ds_102 (pc' := 107) (by decide) (by decide) ?_
  refine g_dastore C S (i := 1) ds_107 A_a66 (by decide) (by decide) ge_a66 (pc' := 108) rfl (fun T68 h68 S W68 B68 => ?_)
  have A_a1 := A_a1.other W68 ne_a1_a66
  have A_a2 := A_a2.other W68 ne_a2_a66
  have Zn := Nat.le_trans Zn (Nat.le_of_eq W68.size.symm)
  have A_a66 := B68
  have Kp := Kp.wr W68 (Or.inr sz_a66)
  refine g_iincL C S (1 : Int32) (2 : Int32) ds_108 (pc' := 111) rfl rfl (by decide) rfl (L' := #[.val (.ref a1), .val (.ref a2), .val (.double (FP.dadd FP.dconst0 (FP.ddiv t1 (FP.l2d c1)))), .second, .val (.int (1 : Int32)), .val (.double (FP.ddiv (FP.dadd FP.dconst0 (FP.ddiv t1 (FP.l2d c1))) (FP.i2d (1 : Int32)))), .second, .val (.ref a66), .val (.int (2 : Int32))]) rfl ?_
  refine g_goto C S ds_111 (pc' := 71) (by decide) (by decide) ?_
  refine g_iload C S ds_71 (pc' := 73) rfl rfl ?_
  refine g_aload C S ds_73 (pc' := 75) rfl rfl rfl ?_
  refine g_arraylength C S (x := (3 : Int32)) ds_75 A_a66 (by decide) (pc' := 76) rfl ?_
  refine g_icmp_ge C S ds_76 (pc' := 114) (pf := 79) (by decide) (by decide) rfl (fun hc76 => absurd (by decide) hc76) (fun hc76 => ?_)
  refine g_aload C S ds_79 (pc' := 81) rfl rfl rfl ?_
  refine g_iload C S ds_81 (pc' := 83) rfl rfl ?_
  refine g_aloadN C S ds_83 (pc' := 84) rfl rfl rfl ?_
  refine g_iload C S ds_84 (pc' := 86) rfl rfl ?_
  refine g_laload C S (i := 2) (v := (.long c2)) ds_86 A_a1 (by decide) (by decide) hc2 (pc' := 87) rfl ?_
  refine g_lconst C S (0 : Int64) ds_87 (pc' := 88) rfl rfl ?_
  refine g_lcmp C S ds_88 (pc' := 89) rfl ?_
  refine g_lif_le C S ds_89 (pc' := 105) (pf := 92) (by decide) (by decide) rfl (fun hc89 => ?_) (fun hc89 => absurd hc89 s2)
  refine g_dload C S ds_105 (pc' := 107) rfl rfl ?_
  refine g_dastore C S (i := 2) ds_107 A_a66 (by decide) (by decide) ge_a66 (pc' := 108) rfl (fun T69 h69 S W69 B69 => ?_)
  have A_a1 := A_a1.other W69 ne_a1_a66
  have A_a2 := A_a2.other W69 ne_a2_a66
  have Zn := Nat.le_trans Zn (Nat.le_of_eq W69.size.symm)
  have A_a66 := B69
  have Kp := Kp.wr W69 (Or.inr sz_a66)
  refine g_iincL C S (1 : Int32) (3 : Int32) ds_108 (pc' := 111) rfl rfl (by decide) rfl (L' := #[.val (.ref a1), .val (.ref a2), .val (.double (FP.dadd FP.dconst0 (FP.ddiv t1 (FP.l2d c1)))), .second, .val (.int (1 : Int32)), .val (.double (FP.ddiv (FP.dadd FP.dconst0 (FP.ddiv t1 (FP.l2d c1))) (FP.i2d (1 : Int32)))), .second, .val (.ref a66), .val (.int (3 : Int32))]) rfl ?_
  refine g_goto C S ds_111 (pc' := 71) (by decide) (by decide) ?_
  refine g_iload C S ds_71 (pc' := 73) rfl rfl ?_
  refine g_aload C S ds_73 (pc' := 75) rfl rfl rfl ?_
  refine g_arraylength C S (x := (3 : Int32)) ds_75 A_a66 (by decide) (pc' := 76) rfl ?_
  refine g_icmp_ge C S ds_76 (pc' := 114) (pf := 79) (by decide) (by decide) rfl (fun hc76 => ?_) (fun hc76 => absurd hc76 (by decide))
  refine g_aload C S ds_114 (pc' := 116) rfl rfl rfl ?_
  exact g_retA C S ds_116 rfl rfl rfl (by decide) (by decide) (⟨a66, _, rfl, ge_a66, sz_a66, Kp, A_a66, rfl, rfl, rfl⟩)
set_option maxRecDepth 65536 in
set_option maxHeartbeats 40000000 in
theorem c_wt010 (l : Launch) (Z : State) (a0 : Array Value) (hw : ∀ d ∈ tables_1, d.before a0 Z = true) (a1 : Addr) (a2 : Addr) (a3 : Addr) (h0 : Heap) (n0 : Nat) (c0 c1 c2 : Int64) (t0 t1 t2 : UInt64) (fc ft : Nat → Value) (m0 : Jvm.Free.Fl.Mag64 1056 t0) (m1 : Jvm.Free.Fl.Mag64 1056 t1) (m2 : Jvm.Free.Fl.Mag64 1056 t2) (hc0 : fc 0 = .long c0) (hc1 : fc 1 = .long c1) (hc2 : fc 2 = .long c2) (ht0 : ft 0 = .double t0) (ht1 : ft 1 = .double t1) (ht2 : ft 2 = .double t2) (q0 q1 q2 : Int64) (fq : Nat → Value) (hq0 : fq 0 = .long q0) (hq1 : fq 1 = .long q1) (hq2 : fq 2 = .long q2) (s0 : ¬ (0 : Int64) < c0) (s1 : (0 : Int64) < c1) (s2 : ¬ (0 : Int64) < c2) (Zn : n0 ≤ h0.size) (A_a1 : Ary Z h0 a1 .long 3 fq) (A_a2 : Ary Z h0 a2 .long 3 fc) (A_a3 : Ary Z h0 a3 .double 3 ft) :
    Con l Z (⟨"com/example/tuned_conveyor/tunedconveyor/Allocation", "weights", "([J[J[D)[D"⟩ : MethodName) prog_1_method_17_code 6 (some (.array .double)) ({ frames := 1, cells := 2, slots := 6, locals := 20 } : Room) #[(.ref a1), (.ref a2), (.ref a3)] h0 n0 (fun v h => ∃ (b : Addr) (f : Nat → Value), v = some (.ref b) ∧ n0 ≤ b ∧ h0.size ≤ b ∧ Ary Z h b .double 3 f ∧ f 0 = .double (FP.dmul (FP.l2d q0) (FP.ddiv (FP.dadd FP.dconst0 (FP.ddiv t1 (FP.l2d c1))) (FP.i2d ((0 : Int32) + (1 : Int32))))) ∧ f 1 = .double (FP.dmul (FP.l2d q1) (FP.ddiv t1 (FP.l2d c1))) ∧ f 2 = .double (FP.dmul (FP.l2d q2) (FP.ddiv (FP.dadd FP.dconst0 (FP.ddiv t1 (FP.l2d c1))) (FP.i2d ((0 : Int32) + (1 : Int32)))))) := by
  refine Con.of (plainFor_of_name (by first | (simp [plainName, overriddenIn]; done) | decide +kernel)) (L0 := #[.val (.ref a1), .val (.ref a2), .val (.ref a3), .unset, .unset, .unset]) (fun m => by first | (simp [entryFrame, mkF, argsToLocals, Value.category]; done) | rfl) ?_
  intro p e s m below meth c T C S
  have Kp := Keep.refl h0 []
  have lt_a1 := A_a1.lt
  refine g_aloadN C S dw_0 (pc' := 1) rfl rfl rfl ?_
  refine g_aloadN C S dw_1 (pc' := 2) rfl rfl rfl ?_
  refine g_callS C S (rm := ({ frames := 0, cells := 1, slots := 3, locals := 0 } : Room)) (W := 0) dw_2 (hw _ (List.mem_of_getElem? (i := 9) rfl)) (hw _ (List.mem_of_getElem? (i := 10) rfl)) (hw _ (List.mem_of_getElem? (i := 7) rfl)) (hw _ (List.mem_of_getElem? (i := 11) rfl)) (by decide) (c_st010 l Z a0 hw a2 a3 h0 n0 c0 c1 c2 t0 t1 t2 fc ft m0 m1 m2 hc0 hc1 hc2 ht0 ht1 ht2 s0 s1 s2 Zn A_a2 A_a3) (argsL := [(.ref a2), (.ref a3)]) (r := []) rfl (lenOf pd_0 rfl) rfl (Nat.le_of_eq rfl) (by decide) (by decide) (by decide) (by decide) (pc' := 5) rfl (fun T70 h70 v70 q70 S => ?_)
  obtain ⟨b70, fs, rfl, ge_b70, sz_b70, K70, A_b70, hs0, hs1, hs2⟩ := q70
  have Kp := Kp.trans K70 all0
  have A_a1 := A_a1.keep K70 nin0
  have Zn := Nat.le_trans Zn K70.1
  have ne_a1_b70 : a1 ≠ b70 := Nat.ne_of_lt (Nat.lt_of_lt_of_le lt_a1 sz_b70)
  show Gl p e below s _ n0 _ T70 (mkF m 5 #[.val (.ref a1), .val (.ref a2), .val (.ref a3), .unset, .unset, .unset] [(.ref b70)])
  refine g_astoreN C S dw_5 (pc' := 6) rfl rfl (L' := #[.val (.ref a1), .val (.ref a2), .val (.ref a3), .val (.ref b70), .unset, .unset]) rfl ?_
  refine g_aloadN C S dw_6 (pc' := 7) rfl rfl rfl ?_
  refine g_arraylength C S (x := (3 : Int32)) dw_7 A_b70 (by decide) (pc' := 8) rfl ?_
  refine g_newarray C S (N := 3) (cap := 3) dw_8 (hw _ (List.mem_of_getElem? (i := 4) rfl)) (by decide) (by decide) (by decide) (by decide) (by decide) (pc' := 10) rfl (fun T71 h71 a71 S g71 E71 A_a71 => ?_)
  have ne_a1_a71 : a1 ≠ a71 := ne_new g71 A_a1.lt
  have ne_b70_a71 : b70 ≠ a71 := ne_new g71 A_b70.lt
  have sz_a71 : h0.size ≤ a71 := ge_of g71 Kp.1
  have ge_a71 : n0 ≤ a71 := ge_of g71 Zn
  have Kp := Kp.ext E71
  have A_a1 := A_a1.ext E71
  have Zn := Nat.le_trans Zn E71.1
  have A_b70 := A_b70.ext E71
  have A_a71 : Ary Z h71 a71 .double 3 (fun _ => (.double 0)) := A_a71
  refine g_astore C S dw_10 (pc' := 12) rfl rfl (L' := #[.val (.ref a1), .val (.ref a2), .val (.ref a3), .val (.ref b70), .val (.ref a71), .unset]) rfl ?_
  refine g_iconst C S (0 : Int32) dw_12 (pc' := 13) rfl rfl ?_
  refine g_istore C S dw_13 (pc' := 15) rfl (L' := #[.val (.ref a1), .val (.ref a2), .val (.ref a3), .val (.ref b70), .val (.ref a71), .val (.int (0 : Int32))]) rfl ?_
  refine g_iload C S dw_15 (pc' := 17) rfl rfl ?_
  refine g_aload C S dw_17 (pc' := 19) rfl rfl rfl ?_
  refine g_arraylength C S (x := (3 : Int32)) dw_19 A_a71 (by decide) (pc' := 20) rfl ?_
  refine g_icmp_ge C S dw_20 (pc' := 44) (pf := 23) (by decide) (by decide) rfl (fun hc20 => absurd (by decide) hc20) (fun hc20 => ?_)
  refine g_aload C S dw_23 (pc' := 25) rfl rfl rfl ?_
  refine g_iload C S dw_25 (pc' := 27) rfl rfl ?_
  refine g_aloadN C S dw_27 (pc' := 28) rfl rfl rfl ?_
  refine g_iload C S dw_28 (pc' := 30) rfl rfl ?_
  refine g_laload C S (i := 0) (v := (.long q0)) dw_30 A_a1 (by decide) (by decide) hq0 (pc' := 31) rfl ?_
  refine g_l2d C S dw_31 (pc' := 32) rfl ?_
  refine g_aloadN C S dw_32 (pc' := 33) rfl rfl rfl ?_
  refine g_iload C S dw_33 (pc' := 35) rfl rfl ?_
  refine g_daload C S (i := 0) (v := (.double (FP.ddiv (FP.dadd FP.dconst0 (FP.ddiv t1 (FP.l2d c1))) (FP.i2d ((0 : Int32) + (1 : Int32)))))) dw_35 A_b70 (by decide) (by decide) hs0 (pc' := 36) rfl ?_
  refine g_dmul C S dw_36 (pc' := 37) rfl (nn_of (Jvm.Free.Fl.dmul_mag (Ka := 1088) (Kb := 1060) (Jvm.Free.Fl.l2d_mag _) (ddiv_mag (K := 1059) (L := 1023) (Jvm.Free.Fl.dadd_mag (K := 1057) (Jvm.Free.Fl.Mag64.mono own_mag0 (by decide)) (Jvm.Free.Fl.Mag64.mono (ddiv_mag (K := 1056) (L := 1023) m1 (l2d_big (own_nz s1)) (by decide) (by decide)) (by decide)) (by decide)) (own_i2d (by decide)) (by decide) (by decide)) (by decide) (by decide)) (by decide)) ?_
  refine g_dastore C S (i := 0) dw_37 A_a71 (by decide) (by decide) ge_a71 (pc' := 38) rfl (fun T72 h72 S W72 B72 => ?_)
  have A_a1 := A_a1.other W72 ne_a1_a71
  have Zn := Nat.le_trans Zn (Nat.le_of_eq W72.size.symm)
  have A_b70 := A_b70.other W72 ne_b70_a71
  have A_a71 := B72
  have Kp := Kp.wr W72 (Or.inr sz_a71)
  refine g_iincL C S (1 : Int32) (1 : Int32) dw_38 (pc' := 41) rfl rfl (by decide) rfl (L' := #[.val (.ref a1), .val (.ref a2), .val (.ref a3), .val (.ref b70), .val (.ref a71), .val (.int (1 : Int32))]) rfl ?_
  refine g_goto C S dw_41 (pc' := 15) (by decide) (by decide) ?_
  refine g_iload C S dw_15 (pc' := 17) rfl rfl ?_
  refine g_aload C S dw_17 (pc' := 19) rfl rfl rfl ?_
  refine g_arraylength C S (x := (3 : Int32)) dw_19 A_a71 (by decide) (pc' := 20) rfl ?_
  refine g_icmp_ge C S dw_20 (pc' := 44) (pf := 23) (by decide) (by decide) rfl (fun hc20 => absurd (by decide) hc20) (fun hc20 => ?_)
  refine g_aload C S dw_23 (pc' := 25) rfl rfl rfl ?_
  refine g_iload C S dw_25 (pc' := 27) rfl rfl ?_
  refine g_aloadN C S dw_27 (pc' := 28) rfl rfl rfl ?_
  refine g_iload C S dw_28 (pc' := 30) rfl rfl ?_
  refine g_laload C S (i := 1) (v := (.long q1)) dw_30 A_a1 (by decide) (by decide) hq1 (pc' := 31) rfl ?_
  refine g_l2d C S dw_31 (pc' := 32) rfl ?_
  refine g_aloadN C S dw_32 (pc' := 33) rfl rfl rfl ?_
  refine g_iload C S dw_33 (pc' := 35) rfl rfl ?_
  refine g_daload C S (i := 1) (v := (.double (FP.ddiv t1 (FP.l2d c1)))) dw_35 A_b70 (by decide) (by decide) hs1 (pc' := 36) rfl ?_
  refine g_dmul C S dw_36 (pc' := 37) rfl (nn_of (Jvm.Free.Fl.dmul_mag (Ka := 1088) (Kb := 1057) (Jvm.Free.Fl.l2d_mag _) (ddiv_mag (K := 1056) (L := 1023) m1 (l2d_big (own_nz s1)) (by decide) (by decide)) (by decide) (by decide)) (by decide)) ?_
  refine g_dastore C S (i := 1) dw_37 A_a71 (by decide) (by decide) ge_a71 (pc' := 38) rfl (fun T73 h73 S W73 B73 => ?_)
  have A_a1 := A_a1.other W73 ne_a1_a71
  have Zn := Nat.le_trans Zn (Nat.le_of_eq W73.size.symm)
  have A_b70 := A_b70.other W73 ne_b70_a71
  have A_a71 := B73
  have Kp := Kp.wr W73 (Or.inr sz_a71)
  refine g_iincL C S (1 : Int32) (2 : Int32) dw_38 (pc' := 41) rfl rfl (by decide) rfl (L' := #[.val (.ref a1), .val (.ref a2), .val (.ref a3), .val (.ref b70), .val (.ref a71), .val (.int (2 : Int32))]) rfl ?_
  refine g_goto C S dw_41 (pc' := 15) (by decide) (by decide) ?_
  refine g_iload C S dw_15 (pc' := 17) rfl rfl ?_
  refine g_aload C S dw_17 (pc' := 19) rfl rfl rfl ?_
  refine g_arraylength C S (x := (3 : Int32)) dw_19 A_a71 (by decide) (pc' := 20) rfl ?_
  refine g_icmp_ge C S dw_20 (pc' := 44) (pf := 23) (by decide) (by decide) rfl (fun hc20 => absurd (by decide) hc20) (fun hc20 => ?_)
  refine g_aload C S dw_23 (pc' := 25) rfl rfl rfl ?_
  refine g_iload C S dw_25 (pc' := 27) rfl rfl ?_
  refine g_aloadN C S dw_27 (pc' := 28) rfl rfl rfl ?_
  refine g_iload C S dw_28 (pc' := 30) rfl rfl ?_
  refine g_laload C S (i := 2) (v := (.long q2)) dw_30 A_a1 (by decide) (by decide) hq2 (pc' := 31) rfl ?_
  refine g_l2d C S dw_31 (pc' := 32) rfl ?_
  refine g_aloadN C S dw_32 (pc' := 33) rfl rfl rfl ?_
  refine g_iload C S dw_33 (pc' := 35) rfl rfl ?_
  refine g_daload C S (i := 2) (v := (.double (FP.ddiv (FP.dadd FP.dconst0 (FP.ddiv t1 (FP.l2d c1))) (FP.i2d ((0 : Int32) + (1 : Int32)))))) dw_35 A_b70 (by decide) (by decide) hs2 (pc' := 36) rfl ?_
  refine g_dmul C S dw_36 (pc' := 37) rfl (nn_of (Jvm.Free.Fl.dmul_mag (Ka := 1088) (Kb := 1060) (Jvm.Free.Fl.l2d_mag _) (ddiv_mag (K := 1059) (L := 1023) (Jvm.Free.Fl.dadd_mag (K := 1057) (Jvm.Free.Fl.Mag64.mono own_mag0 (by decide)) (Jvm.Free.Fl.Mag64.mono (ddiv_mag (K := 1056) (L := 1023) m1 (l2d_big (own_nz s1)) (by decide) (by decide)) (by decide)) (by decide)) (own_i2d (by decide)) (by decide) (by decide)) (by decide) (by decide)) (by decide)) ?_
  refine g_dastore C S (i := 2) dw_37 A_a71 (by decide) (by decide) ge_a71 (pc' := 38) rfl (fun T74 h74 S W74 B74 => ?_)
  have A_a1 := A_a1.other W74 ne_a1_a71
  have Zn := Nat.le_trans Zn (Nat.le_of_eq W74.size.symm)
  have A_b70 := A_b70.other W74 ne_b70_a71
  have A_a71 := B74
  have Kp := Kp.wr W74 (Or.inr sz_a71)
  refine g_iincL C S (1 : Int32) (3 : Int32) dw_38 (pc' := 41) rfl rfl (by decide) rfl (L' := #[.val (.ref a1), .val (.ref a2), .val (.ref a3), .val (.ref b70), .val (.ref a71), .val (.int (3 : Int32))]) rfl ?_
  refine g_goto C S dw_41 (pc' := 15) (by decide) (by decide) ?_
  refine g_iload C S dw_15 (pc' := 17) rfl rfl ?_
  refine g_aload C S dw_17 (pc' := 19) rfl rfl rfl ?_
  refine g_arraylength C S (x := (3 : Int32)) dw_19 A_a71 (by decide) (pc' := 20) rfl ?_
  refine g_icmp_ge C S dw_20 (pc' := 44) (pf := 23) (by decide) (by decide) rfl (fun hc20 => ?_) (fun hc20 => absurd hc20 (by decide))
  refine g_aload C S dw_44 (pc' := 46) rfl rfl rfl ?_
  exact g_retA C S dw_46 rfl rfl rfl (by decide) (by decide) (⟨a71, _, rfl, ge_a71, sz_a71, A_a71, rfl, rfl, rfl⟩)
set_option maxRecDepth 65536 in
set_option maxHeartbeats 40000000 in
theorem c_st001 (l : Launch) (Z : State) (a0 : Array Value) (hw : ∀ d ∈ tables_1, d.before a0 Z = true) (a1 : Addr) (a2 : Addr) (h0 : Heap) (n0 : Nat) (c0 c1 c2 : Int64) (t0 t1 t2 : UInt64) (fc ft : Nat → Value) (m0 : Jvm.Free.Fl.Mag64 1056 t0) (m1 : Jvm.Free.Fl.Mag64 1056 t1) (m2 : Jvm.Free.Fl.Mag64 1056 t2) (hc0 : fc 0 = .long c0) (hc1 : fc 1 = .long c1) (hc2 : fc 2 = .long c2) (ht0 : ft 0 = .double t0) (ht1 : ft 1 = .double t1) (ht2 : ft 2 = .double t2) (s0 : ¬ (0 : Int64) < c0) (s1 : ¬ (0 : Int64) < c1) (s2 : (0 : Int64) < c2) (Zn : n0 ≤ h0.size) (A_a1 : Ary Z h0 a1 .long 3 fc) (A_a2 : Ary Z h0 a2 .double 3 ft) :
    Con l Z (⟨"com/example/tuned_conveyor/tunedconveyor/Allocation", "serviceTimes", "([J[D)[D"⟩ : MethodName) prog_1_method_18_code 9 (some (.array .double)) ({ frames := 0, cells := 1, slots := 3, locals := 0 } : Room) #[(.ref a1), (.ref a2)] h0 n0 (fun v h => ∃ (b : Addr) (f : Nat → Value), v = some (.ref b) ∧ n0 ≤ b ∧ h0.size ≤ b ∧ Keep h0 h [] ∧ Ary Z h b .double 3 f ∧ f 0 = .double (FP.ddiv (FP.dadd FP.dconst0 (FP.ddiv t2 (FP.l2d c2))) (FP.i2d ((0 : Int32) + (1 : Int32)))) ∧ f 1 = .double (FP.ddiv (FP.dadd FP.dconst0 (FP.ddiv t2 (FP.l2d c2))) (FP.i2d ((0 : Int32) + (1 : Int32)))) ∧ f 2 = .double (FP.ddiv t2 (FP.l2d c2))) := by
  refine Con.of (plainFor_of_name (by first | (simp [plainName, overriddenIn]; done) | decide +kernel)) (L0 := #[.val (.ref a1), .val (.ref a2), .unset, .unset, .unset, .unset, .unset, .unset, .unset]) (fun m => by first | (simp [entryFrame, mkF, argsToLocals, Value.category]; done) | rfl) ?_
  intro p e s m below meth c T C S
  have Kp := Keep.refl h0 []
  refine g_dconst0 C S ds_0 (pc' := 1) rfl ?_
  refine g_dstoreN C S ds_1 (pc' := 2) rfl (L' := #[.val (.ref a1), .val (.ref a2), .val (.double FP.dconst0), .second, .unset, .unset, .unset, .unset, .unset]) rfl ?_
  refine g_iconst C S (0 : Int32) ds_2 (pc' := 3) rfl rfl ?_
  refine g_istore C S ds_3 (pc' := 5) rfl (L' := #[.val (.ref a1), .val (.ref a2), .val (.double FP.dconst0), .second, .val (.int (0 : Int32)), .unset, .unset, .unset, .unset]) rfl ?_
  refine g_iconst C S (0 : Int32) ds_5 (pc' := 6) rfl rfl ?_
  refine g_istore C S ds_6 (pc' := 8) rfl (L' := #[.val (.ref a1), .val (.ref a2), .val (.double FP.dconst0), .second, .val (.int (0 : Int32)), .val (.int (0 : Int32)), .unset, .unset, .unset]) rfl ?_
  refine g_iload C S ds_8 (pc' := 10) rfl rfl ?_
  refine g_aloadN C S ds_10 (pc' := 11) rfl rfl rfl ?_
  refine g_arraylength C S (x := (3 : Int32)) ds_11 A_a1 (by decide) (pc' := 12) rfl ?_
  refine g_icmp_ge C S ds_12 (pc' := 46) (pf := 15) (by decide) (by decide) rfl (fun hc12 => absurd (by decide) hc12) (fun hc12 => ?_)
  refine g_aloadN C S ds_15 (pc' := 16) rfl rfl rfl ?_
  refine g_iload C S ds_16 (pc' := 18) rfl rfl ?_
  refine g_laload C S (i := 0) (v := (.long c0)) ds_18 A_a1 (by decide) (by decide) hc0 (pc' := 19) rfl ?_
  refine g_lconst C S (0 : Int64) ds_19 (pc' := 20) rfl rfl ?_
  refine g_lcmp C S ds_20 (pc' := 21) rfl ?_
  refine g_lif_le C S ds_21 (pc' := 40) (pf := 24) (by decide) (by decide) rfl (fun hc21 => ?_) (fun hc21 => absurd hc21 s0)
  refine g_iincL C S (1 : Int32) (1 : Int32) ds_40 (pc' := 43) rfl rfl (by decide) rfl (L' := #[.val (.ref a1), .val (.ref a2), .val (.double FP.dconst0), .second, .val (.int (0 : Int32)), .val (.int (1 : Int32)), .unset, .unset, .unset]) rfl ?_
  refine g_goto C S ds_43 (pc' := 8) (by decide) (by decide) ?_
  refine g_iload C S ds_8 (pc' := 10) rfl rfl ?_
  refine g_aloadN C S ds_10 (pc' := 11) rfl rfl rfl ?_
  refine g_arraylength C S (x := (3 : Int32)) ds_11 A_a1 (by decide) (pc' := 12) rfl ?_
  refine g_icmp_ge C S ds_12 (pc' := 46) (pf := 15) (by decide) (by decide) rfl (fun hc12 => absurd (by decide) hc12) (fun hc12 => ?_)
  refine g_aloadN C S ds_15 (pc' := 16) rfl rfl rfl ?_
  refine g_iload C S ds_16 (pc' := 18) rfl rfl ?_
  refine g_laload C S (i := 1) (v := (.long c1)) ds_18 A_a1 (by decide) (by decide) hc1 (pc' := 19) rfl ?_
  refine g_lconst C S (0 : Int64) ds_19 (pc' := 20) rfl rfl ?_
  refine g_lcmp C S ds_20 (pc' := 21) rfl ?_
  refine g_lif_le C S ds_21 (pc' := 40) (pf := 24) (by decide) (by decide) rfl (fun hc21 => ?_) (fun hc21 => absurd hc21 s1)
  refine g_iincL C S (1 : Int32) (2 : Int32) ds_40 (pc' := 43) rfl rfl (by decide) rfl (L' := #[.val (.ref a1), .val (.ref a2), .val (.double FP.dconst0), .second, .val (.int (0 : Int32)), .val (.int (2 : Int32)), .unset, .unset, .unset]) rfl ?_
  refine g_goto C S ds_43 (pc' := 8) (by decide) (by decide) ?_
  refine g_iload C S ds_8 (pc' := 10) rfl rfl ?_
  refine g_aloadN C S ds_10 (pc' := 11) rfl rfl rfl ?_
  refine g_arraylength C S (x := (3 : Int32)) ds_11 A_a1 (by decide) (pc' := 12) rfl ?_
  refine g_icmp_ge C S ds_12 (pc' := 46) (pf := 15) (by decide) (by decide) rfl (fun hc12 => absurd (by decide) hc12) (fun hc12 => ?_)
  refine g_aloadN C S ds_15 (pc' := 16) rfl rfl rfl ?_
  refine g_iload C S ds_16 (pc' := 18) rfl rfl ?_
  refine g_laload C S (i := 2) (v := (.long c2)) ds_18 A_a1 (by decide) (by decide) hc2 (pc' := 19) rfl ?_
  refine g_lconst C S (0 : Int64) ds_19 (pc' := 20) rfl rfl ?_
  refine g_lcmp C S ds_20 (pc' := 21) rfl ?_
  refine g_lif_le C S ds_21 (pc' := 40) (pf := 24) (by decide) (by decide) rfl (fun hc21 => absurd s2 hc21) (fun hc21 => ?_)
  refine g_dloadN C S ds_24 (pc' := 25) rfl rfl ?_
  refine g_aloadN C S ds_25 (pc' := 26) rfl rfl rfl ?_
  refine g_iload C S ds_26 (pc' := 28) rfl rfl ?_
  refine g_daload C S (i := 2) (v := (.double t2)) ds_28 A_a2 (by decide) (by decide) ht2 (pc' := 29) rfl ?_
  refine g_aloadN C S ds_29 (pc' := 30) rfl rfl rfl ?_
  refine g_iload C S ds_30 (pc' := 32) rfl rfl ?_
  refine g_laload C S (i := 2) (v := (.long c2)) ds_32 A_a1 (by decide) (by decide) hc2 (pc' := 33) rfl ?_
  refine g_l2d C S ds_33 (pc' := 34) rfl ?_
  refine g_ddiv C S ds_34 (pc' := 35) rfl (nn_of (ddiv_mag (K := 1056) (L := 1023) m2 (l2d_big (own_nz s2)) (by decide) (by decide)) (by decide)) ?_
  refine g_dadd C S ds_35 (pc' := 36) rfl (nn_of (Jvm.Free.Fl.dadd_mag (K := 1057) (Jvm.Free.Fl.Mag64.mono own_mag0 (by decide)) (Jvm.Free.Fl.Mag64.mono (ddiv_mag (K := 1056) (L := 1023) m2 (l2d_big (own_nz s2)) (by decide) (by decide)) (by decide)) (by decide)) (by decide)) ?_
  refine g_dstoreN C S ds_36 (pc' := 37) rfl (L' := #[.val (.ref a1), .val (.ref a2), .val (.double (FP.dadd FP.dconst0 (FP.ddiv t2 (FP.l2d c2)))), .second, .val (.int (0 : Int32)), .val (.int (2 : Int32)), .unset, .unset, .unset]) rfl ?_
  refine g_iincL C S (1 : Int32) (1 : Int32) ds_37 (pc' := 40) rfl rfl (by decide) rfl (L' := #[.val (.ref a1), .val (.ref a2), .val (.double (FP.dadd FP.dconst0 (FP.ddiv t2 (FP.l2d c2)))), .second, .val (.int (1 : Int32)), .val (.int (2 : Int32)), .unset, .unset, .unset]) rfl ?_
  refine g_iincL C S (1 : Int32) (3 : Int32) ds_40 (pc' := 43) rfl rfl (by decide) rfl (L' := #[.val (.ref a1), .val (.ref a2), .val (.double (FP.dadd FP.dconst0 (FP.ddiv t2 (FP.l2d c2)))), .second, .val (.int (1 : Int32)), .val (.int (3 : Int32)), .unset, .unset, .unset]) rfl ?_
  refine g_goto C S ds_43 (pc' := 8) (by decide) (by decide) ?_
  refine g_iload C S ds_8 (pc' := 10) rfl rfl ?_
  refine g_aloadN C S ds_10 (pc' := 11) rfl rfl rfl ?_
  refine g_arraylength C S (x := (3 : Int32)) ds_11 A_a1 (by decide) (pc' := 12) rfl ?_
  refine g_icmp_ge C S ds_12 (pc' := 46) (pf := 15) (by decide) (by decide) rfl (fun hc12 => ?_) (fun hc12 => absurd hc12 (by decide))
  refine g_iload C S ds_46 (pc' := 48) rfl rfl ?_
  refine g_if_ne C S ds_48 (pc' := 55) (pf := 51) (by decide) (by decide) rfl (fun hc48 => ?_) (fun hc48 => absurd hc48 (by decide))
  refine g_dloadN C S ds_55 (pc' := 56) rfl rfl ?_
  refine g_iload C S ds_56 (pc' := 58) rfl rfl ?_
  refine g_i2d C S ds_58 (pc' := 59) rfl ?_
  refine g_ddiv C S ds_59 (pc' := 60) rfl (nn_of (ddiv_mag (K := 1059) (L := 1023) (Jvm.Free.Fl.dadd_mag (K := 1057) (Jvm.Free.Fl.Mag64.mono own_mag0 (by decide)) (Jvm.Free.Fl.Mag64.mono (ddiv_mag (K := 1056) (L := 1023) m2 (l2d_big (own_nz s2)) (by decide) (by decide)) (by decide)) (by decide)) (own_i2d (by decide)) (by decide) (by decide)) (by decide)) ?_
  refine g_dstore C S ds_60 (pc' := 62) rfl (L' := #[.val (.ref a1), .val (.ref a2), .val (.double (FP.dadd FP.dconst0 (FP.ddiv t2 (FP.l2d c2)))), .second, .val (.int (1 : Int32)), .val (.double (FP.ddiv (FP.dadd FP.dconst0 (FP.ddiv t2 (FP.l2d c2))) (FP.i2d (1 : Int32)))), .second, .unset, .unset]) rfl ?_
  refine g_aloadN C S ds_62 (pc' := 63) rfl rfl rfl ?_
  refine g_arraylength C S (x := (3 : Int32)) ds_63 A_a1 (by decide) (pc' := 64) rfl ?_
  refine g_newarray C S (N := 3) (cap := 3) ds_64 (hw _ (List.mem_of_getElem? (i := 4) rfl)) (by decide) (by decide) (by decide) (by decide) (by decide) (pc' := 66) rfl (fun T75 h75 a75 S g75 E75 A_a75 => ?_)
  have ne_a1_a75 : a1 ≠ a75 := ne_new g75 A_a1.lt
  have ne_a2_a75 : a2 ≠ a75 := ne_new g75 A_a2.lt
  have sz_a75 : h0.size ≤ a75 := ge_of g75 Kp.1
  have ge_a75 : n0 ≤ a75 := ge_of g75 Zn
  have Kp := Kp.ext E75
  have A_a1 := A_a1.ext E75
  have A_a2 := A_a2.ext E75
  have Zn := Nat.le_trans Zn E75.1
  have A_a75 : Ary Z h75 a75 .double 3 (fun _ => (.double 0)) := A_a75
  refine g_astore C S ds_66 (pc' := 68) rfl rfl (L' := #[.val (.ref a1), .val (.ref a2), .val (.double (FP.dadd FP.dconst0 (FP.ddiv t2 (FP.l2d c2)))), .second, .val (.int (1 : Int32)), .val (.double (FP.ddiv (FP.dadd FP.dconst0 (FP.ddiv t2 (FP.l2d c2))) (FP.i2d (1 : Int32)))), .second, .val (.ref a75), .unset]) rfl ?_
  refine g_iconst C S (0 : Int32) ds_68 (pc' := 69) rfl rfl ?_
  refine g_istore C S ds_69 (pc' := 71) rfl (L' := #[.val (.ref a1), .val (.ref a2), .val (.double (FP.dadd FP.dconst0 (FP.ddiv t2 (FP.l2d c2)))), .second, .val (.int (1 : Int32)), .val (.double (FP.ddiv (FP.dadd FP.dconst0 (FP.ddiv t2 (FP.l2d c2))) (FP.i2d (1 : Int32)))), .second, .val (.ref a75), .val (.int (0 : Int32))]) rfl ?_
  refine g_iload C S ds_71 (pc' := 73) rfl rfl ?_
  refine g_aload C S ds_73 (pc' := 75) rfl rfl rfl ?_
  refine g_arraylength C S (x := (3 : Int32)) ds_75 A_a75 (by decide) (pc' := 76) rfl ?_
  refine g_icmp_ge C S ds_76 (pc' := 114) (pf := 79) (by decide) (by decide) rfl (fun hc76 => absurd (by decide) hc76) (fun hc76 => ?_)
  refine g_aload C S ds_79 (pc' := 81) rfl rfl rfl ?_
  refine g_iload C S ds_81 (pc' := 83) rfl rfl ?_
  refine g_aloadN C S ds_83 (pc' := 84) rfl rfl rfl ?_
  refine g_iload C S ds_84 (pc' := 86) rfl rfl ?_
  refine g_laload C S (i := 0) (v := (.long c0)) ds_86 A_a1 (by decide) (by decide) hc0 (pc' := 87) rfl ?_
  refine g_lconst C S (0 : Int64) ds_87 (pc' := 88) rfl rfl ?_
  refine g_lcmp C S ds_88 (pc' := 89) rfl ?_
  refine g_lif_le C S ds_89 (pc' := 105) (pf := 92) (by decide) (by decide) rfl (fun hc89 => ?_) (fun hc89 => absurd hc89 s0)
  refine g_dload C S ds_105 (pc' := 107) rfl rfl ?_
  refine g_dastore C S (i := 0) ds_107 A_a75 (by decide) (by decide) ge_a75 (pc' := 108) rfl (fun T76 h76 S W76 B76 => ?_)
  have A_a1 := A_a1.other W76 ne_a1_a75
  have A_a2 := A_a2.other W76 ne_a2_a75
  have Zn := Nat.le_trans Zn (Nat.le_of_eq W76.size.symm)
  have A_a75 := B76
  have Kp := Kp.wr W76 (Or.inr sz_a75)
  refine g_iincL C S (1 : Int32) (1 : Int32) ds_108 (pc' := 111) rfl rfl (by decide) rfl (L' := #[.val (.ref a1), .val (.ref a2), .val (.double (FP.dadd FP.dconst0 (FP.ddiv t2 (FP.l2d c2)))), .second, .val (.int (1 : Int32)), .val (.double (FP.ddiv (FP.dadd FP.dconst0 (FP.ddiv t2 (FP.l2d c2))) (FP.i2d (1 : Int32)))), .second, .val (.ref a75), .val (.int (1 : Int32))]) rfl ?_
  refine g_goto C S ds_111 (pc' := 71) (by decide) (by decide) ?_
  refine g_iload C S ds_71 (pc' := 73) rfl rfl ?_
  refine g_aload C S ds_73 (pc' := 75) rfl rfl rfl ?_
  refine g_arraylength C S (x := (3 : Int32)) ds_75 A_a75 (by decide) (pc' := 76) rfl ?_
  refine g_icmp_ge C S ds_76 (pc' := 114) (pf := 79) (by decide) (by decide) rfl (fun hc76 => absurd (by decide) hc76) (fun hc76 => ?_)
  refine g_aload C S ds_79 (pc' := 81) rfl rfl rfl ?_
  refine g_iload C S ds_81 (pc' := 83) rfl rfl ?_
  refine g_aloadN C S ds_83 (pc' := 84) rfl rfl rfl ?_
  refine g_iload C S ds_84 (pc' := 86) rfl rfl ?_
  refine g_laload C S (i := 1) (v := (.long c1)) ds_86 A_a1 (by decide) (by decide) hc1 (pc' := 87) rfl ?_
  refine g_lconst C S (0 : Int64) ds_87 (pc' := 88) rfl rfl ?_
  refine g_lcmp C S ds_88 (pc' := 89) rfl ?_
  refine g_lif_le C S ds_89 (pc' := 105) (pf := 92) (by decide) (by decide) rfl (fun hc89 => ?_) (fun hc89 => absurd hc89 s1)
  refine g_dload C S ds_105 (pc' := 107) rfl rfl ?_
  refine g_dastore C S (i := 1) ds_107 A_a75 (by decide) (by decide) ge_a75 (pc' := 108) rfl (fun T77 h77 S W77 B77 => ?_)
  have A_a1 := A_a1.other W77 ne_a1_a75
  have A_a2 := A_a2.other W77 ne_a2_a75
  have Zn := Nat.le_trans Zn (Nat.le_of_eq W77.size.symm)
  have A_a75 := B77
  have Kp := Kp.wr W77 (Or.inr sz_a75)
  refine g_iincL C S (1 : Int32) (2 : Int32) ds_108 (pc' := 111) rfl rfl (by decide) rfl (L' := #[.val (.ref a1), .val (.ref a2), .val (.double (FP.dadd FP.dconst0 (FP.ddiv t2 (FP.l2d c2)))), .second, .val (.int (1 : Int32)), .val (.double (FP.ddiv (FP.dadd FP.dconst0 (FP.ddiv t2 (FP.l2d c2))) (FP.i2d (1 : Int32)))), .second, .val (.ref a75), .val (.int (2 : Int32))]) rfl ?_
  refine g_goto C S ds_111 (pc' := 71) (by decide) (by decide) ?_
  refine g_iload C S ds_71 (pc' := 73) rfl rfl ?_
  refine g_aload C S ds_73 (pc' := 75) rfl rfl rfl ?_
  refine g_arraylength C S (x := (3 : Int32)) ds_75 A_a75 (by decide) (pc' := 76) rfl ?_
  refine g_icmp_ge C S ds_76 (pc' := 114) (pf := 79) (by decide) (by decide) rfl (fun hc76 => absurd (by decide) hc76) (fun hc76 => ?_)
  refine g_aload C S ds_79 (pc' := 81) rfl rfl rfl ?_
  refine g_iload C S ds_81 (pc' := 83) rfl rfl ?_
  refine g_aloadN C S ds_83 (pc' := 84) rfl rfl rfl ?_
  refine g_iload C S ds_84 (pc' := 86) rfl rfl ?_
  refine g_laload C S (i := 2) (v := (.long c2)) ds_86 A_a1 (by decide) (by decide) hc2 (pc' := 87) rfl ?_
  refine g_lconst C S (0 : Int64) ds_87 (pc' := 88) rfl rfl ?_
  refine g_lcmp C S ds_88 (pc' := 89) rfl ?_
  refine g_lif_le C S ds_89 (pc' := 105) (pf := 92) (by decide) (by decide) rfl (fun hc89 => absurd s2 hc89) (fun hc89 => ?_)
  refine g_aloadN C S ds_92 (pc' := 93) rfl rfl rfl ?_
  refine g_iload C S ds_93 (pc' := 95) rfl rfl ?_
  refine g_daload C S (i := 2) (v := (.double t2)) ds_95 A_a2 (by decide) (by decide) ht2 (pc' := 96) rfl ?_
  refine g_aloadN C S ds_96 (pc' := 97) rfl rfl rfl ?_
  refine g_iload C S ds_97 (pc' := 99) rfl rfl ?_
  refine g_laload C S (i := 2) (v := (.long c2)) ds_99 A_a1 (by decide) (by decide) hc2 (pc' := 100) rfl ?_
  refine g_l2d C S ds_100 (pc' := 101) rfl ?_
  refine g_ddiv C S ds_101 (pc' := 102) rfl (nn_of (ddiv_mag (K := 1056) (L := 1023) m2 (l2d_big (own_nz s2)) (by decide) (by decide)) (by decide)) ?_
  refine g_goto C S ds_102 (pc' := 107) (by decide) (by decide) ?_
  refine g_dastore C S (i := 2) ds_107 A_a75 (by decide) (by decide) ge_a75 (pc' := 108) rfl (fun T78 h78 S W78 B78 => ?_)
  have A_a1 := A_a1.other W78 ne_a1_a75
  have A_a2 := A_a2.other W78 ne_a2_a75
  have Zn := Nat.le_trans Zn (Nat.le_of_eq W78.size.symm)
  have A_a75 := B78
  have Kp := Kp.wr W78 (Or.inr sz_a75)
  refine g_iincL C S (1 : Int32) (3 : Int32) ds_108 (pc' := 111) rfl rfl (by decide) rfl (L' := #[.val (.ref a1), .val (.ref a2), .val (.double (FP.dadd FP.dconst0 (FP.ddiv t2 (FP.l2d c2)))), .second, .val (.int (1 : Int32)), .val (.double (FP.ddiv (FP.dadd FP.dconst0 (FP.ddiv t2 (FP.l2d c2))) (FP.i2d (1 : Int32)))), .second, .val (.ref a75), .val (.int (3 : Int32))]) rfl ?_
  refine g_goto C S ds_111 (pc' := 71) (by decide) (by decide) ?_
  refine g_iload C S ds_71 (pc' := 73) rfl rfl ?_
  refine g_aload C S ds_73 (pc' := 75) rfl rfl rfl ?_
  refine g_arraylength C S (x := (3 : Int32)) ds_75 A_a75 (by decide) (pc' := 76) rfl ?_
  refine g_icmp_ge C S ds_76 (pc' := 114) (pf := 79) (by decide) (by decide) rfl (fun hc76 => ?_) (fun hc76 => absurd hc76 (by decide))
  refine g_aload C S ds_114 (pc' := 116) rfl rfl rfl ?_
  exact g_retA C S ds_116 rfl rfl rfl (by decide) (by decide) (⟨a75, _, rfl, ge_a75, sz_a75, Kp, A_a75, rfl, rfl, rfl⟩)
set_option maxRecDepth 65536 in
set_option maxHeartbeats 40000000 in
theorem c_wt001 (l : Launch) (Z : State) (a0 : Array Value) (hw : ∀ d ∈ tables_1, d.before a0 Z = true) (a1 : Addr) (a2 : Addr) (a3 : Addr) (h0 : Heap) (n0 : Nat) (c0 c1 c2 : Int64) (t0 t1 t2 : UInt64) (fc ft : Nat → Value) (m0 : Jvm.Free.Fl.Mag64 1056 t0) (m1 : Jvm.Free.Fl.Mag64 1056 t1) (m2 : Jvm.Free.Fl.Mag64 1056 t2) (hc0 : fc 0 = .long c0) (hc1 : fc 1 = .long c1) (hc2 : fc 2 = .long c2) (ht0 : ft 0 = .double t0) (ht1 : ft 1 = .double t1) (ht2 : ft 2 = .double t2) (q0 q1 q2 : Int64) (fq : Nat → Value) (hq0 : fq 0 = .long q0) (hq1 : fq 1 = .long q1) (hq2 : fq 2 = .long q2) (s0 : ¬ (0 : Int64) < c0) (s1 : ¬ (0 : Int64) < c1) (s2 : (0 : Int64) < c2) (Zn : n0 ≤ h0.size) (A_a1 : Ary Z h0 a1 .long 3 fq) (A_a2 : Ary Z h0 a2 .long 3 fc) (A_a3 : Ary Z h0 a3 .double 3 ft) :
    Con l Z (⟨"com/example/tuned_conveyor/tunedconveyor/Allocation", "weights", "([J[J[D)[D"⟩ : MethodName) prog_1_method_17_code 6 (some (.array .double)) ({ frames := 1, cells := 2, slots := 6, locals := 20 } : Room) #[(.ref a1), (.ref a2), (.ref a3)] h0 n0 (fun v h => ∃ (b : Addr) (f : Nat → Value), v = some (.ref b) ∧ n0 ≤ b ∧ h0.size ≤ b ∧ Ary Z h b .double 3 f ∧ f 0 = .double (FP.dmul (FP.l2d q0) (FP.ddiv (FP.dadd FP.dconst0 (FP.ddiv t2 (FP.l2d c2))) (FP.i2d ((0 : Int32) + (1 : Int32))))) ∧ f 1 = .double (FP.dmul (FP.l2d q1) (FP.ddiv (FP.dadd FP.dconst0 (FP.ddiv t2 (FP.l2d c2))) (FP.i2d ((0 : Int32) + (1 : Int32))))) ∧ f 2 = .double (FP.dmul (FP.l2d q2) (FP.ddiv t2 (FP.l2d c2)))) := by
  refine Con.of (plainFor_of_name (by first | (simp [plainName, overriddenIn]; done) | decide +kernel)) (L0 := #[.val (.ref a1), .val (.ref a2), .val (.ref a3), .unset, .unset, .unset]) (fun m => by first | (simp [entryFrame, mkF, argsToLocals, Value.category]; done) | rfl) ?_
  intro p e s m below meth c T C S
  have Kp := Keep.refl h0 []
  have lt_a1 := A_a1.lt
  refine g_aloadN C S dw_0 (pc' := 1) rfl rfl rfl ?_
  refine g_aloadN C S dw_1 (pc' := 2) rfl rfl rfl ?_
  refine g_callS C S (rm := ({ frames := 0, cells := 1, slots := 3, locals := 0 } : Room)) (W := 0) dw_2 (hw _ (List.mem_of_getElem? (i := 9) rfl)) (hw _ (List.mem_of_getElem? (i := 10) rfl)) (hw _ (List.mem_of_getElem? (i := 7) rfl)) (hw _ (List.mem_of_getElem? (i := 11) rfl)) (by decide) (c_st001 l Z a0 hw a2 a3 h0 n0 c0 c1 c2 t0 t1 t2 fc ft m0 m1 m2 hc0 hc1 hc2 ht0 ht1 ht2 s0 s1 s2 Zn A_a2 A_a3) (argsL := [(.ref a2), (.ref a3)]) (r := []) rfl (lenOf pd_0 rfl) rfl (Nat.le_of_eq rfl) (by decide) (by decide) (by decide) (by decide) (pc' := 5) rfl (fun T79 h79 v79 q79 S => ?_)
  obtain ⟨b79, fs, rfl, ge_b79, sz_b79, K79, A_b79, hs0, hs1, hs2⟩ := q79
  have Kp := Kp.trans K79 all0
  have A_a1 := A_a1.keep K79 nin0
  have Zn := Nat.le_trans Zn K79.1
  have ne_a1_b79 : a1 ≠ b79 := Nat.ne_of_lt (Nat.lt_of_lt_of_le lt_a1 sz_b79)
  show Gl p e below s _ n0 _ T79 (mkF m 5 #[.val (.ref a1), .val (.ref a2), .val (.ref a3), .unset, .unset, .unset] [(.ref b79)])
  refine g_astoreN C S dw_5 (pc' := 6) rfl rfl (L' := #[.val (.ref a1), .val (.ref a2), .val (.ref a3), .val (.ref b79), .unset, .unset]) rfl ?_
  refine g_aloadN C S dw_6 (pc' := 7) rfl rfl rfl ?_
  refine g_arraylength C S (x := (3 : Int32)) dw_7 A_b79 (by decide) (pc' := 8) rfl ?_
  refine g_newarray C S (N := 3) (cap := 3) dw_8 (hw _ (List.mem_of_getElem? (i := 4) rfl)) (by decide) (by decide) (by decide) (by decide) (by decide) (pc' := 10) rfl (fun T80 h80 a80 S g80 E80 A_a80 => ?_)
  have ne_a1_a80 : a1 ≠ a80 := ne_new g80 A_a1.lt
  have ne_b79_a80 : b79 ≠ a80 := ne_new g80 A_b79.lt
  have sz_a80 : h0.size ≤ a80 := ge_of g80 Kp.1
  have ge_a80 : n0 ≤ a80 := ge_of g80 Zn
  have Kp := Kp.ext E80
  have A_a1 := A_a1.ext E80
  have Zn := Nat.le_trans Zn E80.1
  have A_b79 := A_b79.ext E80
  have A_a80 : Ary Z h80 a80 .double 3 (fun _ => (.double 0)) := A_a80
  refine g_astore C S dw_10 (pc' := 12) rfl rfl (L' := #[.val (.ref a1), .val (.ref a2), .val (.ref a3), .val (.ref b79), .val (.ref a80), .unset]) rfl ?_
  refine g_iconst C S (0 : Int32) dw_12 (pc' := 13) rfl rfl ?_
  refine g_istore C S dw_13 (pc' := 15) rfl (L' := #[.val (.ref a1), .val (.ref a2), .val (.ref a3), .val (.ref b79), .val (.ref a80), .val (.int (0 : Int32))]) rfl ?_
  refine g_iload C S dw_15 (pc' := 17) rfl rfl ?_
  refine g_aload C S dw_17 (pc' := 19) rfl rfl rfl ?_
  refine g_arraylength C S (x := (3 : Int32)) dw_19 A_a80 (by decide) (pc' := 20) rfl ?_
  refine g_icmp_ge C S dw_20 (pc' := 44) (pf := 23) (by decide) (by decide) rfl (fun hc20 => absurd (by decide) hc20) (fun hc20 => ?_)
  refine g_aload C S dw_23 (pc' := 25) rfl rfl rfl ?_
  refine g_iload C S dw_25 (pc' := 27) rfl rfl ?_
  refine g_aloadN C S dw_27 (pc' := 28) rfl rfl rfl ?_
  refine g_iload C S dw_28 (pc' := 30) rfl rfl ?_
  refine g_laload C S (i := 0) (v := (.long q0)) dw_30 A_a1 (by decide) (by decide) hq0 (pc' := 31) rfl ?_
  refine g_l2d C S dw_31 (pc' := 32) rfl ?_
  refine g_aloadN C S dw_32 (pc' := 33) rfl rfl rfl ?_
  refine g_iload C S dw_33 (pc' := 35) rfl rfl ?_
  refine g_daload C S (i := 0) (v := (.double (FP.ddiv (FP.dadd FP.dconst0 (FP.ddiv t2 (FP.l2d c2))) (FP.i2d ((0 : Int32) + (1 : Int32)))))) dw_35 A_b79 (by decide) (by decide) hs0 (pc' := 36) rfl ?_
  refine g_dmul C S dw_36 (pc' := 37) rfl (nn_of (Jvm.Free.Fl.dmul_mag (Ka := 1088) (Kb := 1060) (Jvm.Free.Fl.l2d_mag _) (ddiv_mag (K := 1059) (L := 1023) (Jvm.Free.Fl.dadd_mag (K := 1057) (Jvm.Free.Fl.Mag64.mono own_mag0 (by decide)) (Jvm.Free.Fl.Mag64.mono (ddiv_mag (K := 1056) (L := 1023) m2 (l2d_big (own_nz s2)) (by decide) (by decide)) (by decide)) (by decide)) (own_i2d (by decide)) (by decide) (by decide)) (by decide) (by decide)) (by decide)) ?_
  refine g_dastore C S (i := 0) dw_37 A_a80 (by decide) (by decide) ge_a80 (pc' := 38) rfl (fun T81 h81 S W81 B81 => ?_)
  have A_a1 := A_a1.other W81 ne_a1_a80
  have Zn := Nat.le_trans Zn (Nat.le_of_eq W81.size.symm)
  have A_b79 := A_b79.other W81 ne_b79_a80
  have A_a80 := B81
  have Kp := Kp.wr W81 (Or.inr sz_a80)
  refine g_iincL C S (1 : Int32) (1 : Int32) dw_38 (pc' := 41) rfl rfl (by decide) rfl (L' := #[.val (.ref a1), .val (.ref a2), .val (.ref a3), .val (.ref b79), .val (.ref a80), .val (.int (1 : Int32))]) rfl ?_
  refine g_goto C S dw_41 (pc' := 15) (by decide) (by decide) ?_
  refine g_iload C S dw_15 (pc' := 17) rfl rfl ?_
  refine g_aload C S dw_17 (pc' := 19) rfl rfl rfl ?_
  refine g_arraylength C S (x := (3 : Int32)) dw_19 A_a80 (by decide) (pc' := 20) rfl ?_
  refine g_icmp_ge C S dw_20 (pc' := 44) (pf := 23) (by decide) (by decide) rfl (fun hc20 => absurd (by decide) hc20) (fun hc20 => ?_)
  refine g_aload C S dw_23 (pc' := 25) rfl rfl rfl ?_
  refine g_iload C S dw_25 (pc' := 27) rfl rfl ?_
  refine g_aloadN C S dw_27 (pc' := 28) rfl rfl rfl ?_
  refine g_iload C S dw_28 (pc' := 30) rfl rfl ?_
  refine g_laload C S (i := 1) (v := (.long q1)) dw_30 A_a1 (by decide) (by decide) hq1 (pc' := 31) rfl ?_
  refine g_l2d C S dw_31 (pc' := 32) rfl ?_
  refine g_aloadN C S dw_32 (pc' := 33) rfl rfl rfl ?_
  refine g_iload C S dw_33 (pc' := 35) rfl rfl ?_
  refine g_daload C S (i := 1) (v := (.double (FP.ddiv (FP.dadd FP.dconst0 (FP.ddiv t2 (FP.l2d c2))) (FP.i2d ((0 : Int32) + (1 : Int32)))))) dw_35 A_b79 (by decide) (by decide) hs1 (pc' := 36) rfl ?_
  refine g_dmul C S dw_36 (pc' := 37) rfl (nn_of (Jvm.Free.Fl.dmul_mag (Ka := 1088) (Kb := 1060) (Jvm.Free.Fl.l2d_mag _) (ddiv_mag (K := 1059) (L := 1023) (Jvm.Free.Fl.dadd_mag (K := 1057) (Jvm.Free.Fl.Mag64.mono own_mag0 (by decide)) (Jvm.Free.Fl.Mag64.mono (ddiv_mag (K := 1056) (L := 1023) m2 (l2d_big (own_nz s2)) (by decide) (by decide)) (by decide)) (by decide)) (own_i2d (by decide)) (by decide) (by decide)) (by decide) (by decide)) (by decide)) ?_
  refine g_dastore C S (i := 1) dw_37 A_a80 (by decide) (by decide) ge_a80 (pc' := 38) rfl (fun T82 h82 S W82 B82 => ?_)
  have A_a1 := A_a1.other W82 ne_a1_a80
  have Zn := Nat.le_trans Zn (Nat.le_of_eq W82.size.symm)
  have A_b79 := A_b79.other W82 ne_b79_a80
  have A_a80 := B82
  have Kp := Kp.wr W82 (Or.inr sz_a80)
  refine g_iincL C S (1 : Int32) (2 : Int32) dw_38 (pc' := 41) rfl rfl (by decide) rfl (L' := #[.val (.ref a1), .val (.ref a2), .val (.ref a3), .val (.ref b79), .val (.ref a80), .val (.int (2 : Int32))]) rfl ?_
  refine g_goto C S dw_41 (pc' := 15) (by decide) (by decide) ?_
  refine g_iload C S dw_15 (pc' := 17) rfl rfl ?_
  refine g_aload C S dw_17 (pc' := 19) rfl rfl rfl ?_
  refine g_arraylength C S (x := (3 : Int32)) dw_19 A_a80 (by decide) (pc' := 20) rfl ?_
  refine g_icmp_ge C S dw_20 (pc' := 44) (pf := 23) (by decide) (by decide) rfl (fun hc20 => absurd (by decide) hc20) (fun hc20 => ?_)
  refine g_aload C S dw_23 (pc' := 25) rfl rfl rfl ?_
  refine g_iload C S dw_25 (pc' := 27) rfl rfl ?_
  refine g_aloadN C S dw_27 (pc' := 28) rfl rfl rfl ?_
  refine g_iload C S dw_28 (pc' := 30) rfl rfl ?_
  refine g_laload C S (i := 2) (v := (.long q2)) dw_30 A_a1 (by decide) (by decide) hq2 (pc' := 31) rfl ?_
  refine g_l2d C S dw_31 (pc' := 32) rfl ?_
  refine g_aloadN C S dw_32 (pc' := 33) rfl rfl rfl ?_
  refine g_iload C S dw_33 (pc' := 35) rfl rfl ?_
  refine g_daload C S (i := 2) (v := (.double (FP.ddiv t2 (FP.l2d c2)))) dw_35 A_b79 (by decide) (by decide) hs2 (pc' := 36) rfl ?_
  refine g_dmul C S dw_36 (pc' := 37) rfl (nn_of (Jvm.Free.Fl.dmul_mag (Ka := 1088) (Kb := 1057) (Jvm.Free.Fl.l2d_mag _) (ddiv_mag (K := 1056) (L := 1023) m2 (l2d_big (own_nz s2)) (by decide) (by decide)) (by decide) (by decide)) (by decide)) ?_
  refine g_dastore C S (i := 2) dw_37 A_a80 (by decide) (by decide) ge_a80 (pc' := 38) rfl (fun T83 h83 S W83 B83 => ?_)
  have A_a1 := A_a1.other W83 ne_a1_a80
  have Zn := Nat.le_trans Zn (Nat.le_of_eq W83.size.symm)
  have A_b79 := A_b79.other W83 ne_b79_a80
  have A_a80 := B83
  have Kp := Kp.wr W83 (Or.inr sz_a80)
  refine g_iincL C S (1 : Int32) (3 : Int32) dw_38 (pc' := 41) rfl rfl (by decide) rfl (L' := #[.val (.ref a1), .val (.ref a2), .val (.ref a3), .val (.ref b79), .val (.ref a80), .val (.int (3 : Int32))]) rfl ?_
  refine g_goto C S dw_41 (pc' := 15) (by decide) (by decide) ?_
  refine g_iload C S dw_15 (pc' := 17) rfl rfl ?_
  refine g_aload C S dw_17 (pc' := 19) rfl rfl rfl ?_
  refine g_arraylength C S (x := (3 : Int32)) dw_19 A_a80 (by decide) (pc' := 20) rfl ?_
  refine g_icmp_ge C S dw_20 (pc' := 44) (pf := 23) (by decide) (by decide) rfl (fun hc20 => ?_) (fun hc20 => absurd hc20 (by decide))
  refine g_aload C S dw_44 (pc' := 46) rfl rfl rfl ?_
  exact g_retA C S dw_46 rfl rfl rfl (by decide) (by decide) (⟨a80, _, rfl, ge_a80, sz_a80, A_a80, rfl, rfl, rfl⟩)
theorem ds_51 : decode prog_1_method_18_code 51 = .ok (.dconst 1, 1) := by decide +kernel
theorem ds_52 : decode prog_1_method_18_code 52 = .ok (.goto 8, 3) := by decide +kernel
set_option maxRecDepth 65536 in
set_option maxHeartbeats 40000000 in
theorem c_st000 (l : Launch) (Z : State) (a0 : Array Value) (hw : ∀ d ∈ tables_1, d.before a0 Z = true) (a1 : Addr) (a2 : Addr) (h0 : Heap) (n0 : Nat) (c0 c1 c2 : Int64) (t0 t1 t2 : UInt64) (fc ft : Nat → Value) (m0 : Jvm.Free.Fl.Mag64 1056 t0) (m1 : Jvm.Free.Fl.Mag64 1056 t1) (m2 : Jvm.Free.Fl.Mag64 1056 t2) (hc0 : fc 0 = .long c0) (hc1 : fc 1 = .long c1) (hc2 : fc 2 = .long c2) (ht0 : ft 0 = .double t0) (ht1 : ft 1 = .double t1) (ht2 : ft 2 = .double t2) (s0 : ¬ (0 : Int64) < c0) (s1 : ¬ (0 : Int64) < c1) (s2 : ¬ (0 : Int64) < c2) (Zn : n0 ≤ h0.size) (A_a1 : Ary Z h0 a1 .long 3 fc) (A_a2 : Ary Z h0 a2 .double 3 ft) :
    Con l Z (⟨"com/example/tuned_conveyor/tunedconveyor/Allocation", "serviceTimes", "([J[D)[D"⟩ : MethodName) prog_1_method_18_code 9 (some (.array .double)) ({ frames := 0, cells := 1, slots := 3, locals := 0 } : Room) #[(.ref a1), (.ref a2)] h0 n0 (fun v h => ∃ (b : Addr) (f : Nat → Value), v = some (.ref b) ∧ n0 ≤ b ∧ h0.size ≤ b ∧ Keep h0 h [] ∧ Ary Z h b .double 3 f ∧ f 0 = .double FP.dconst1 ∧ f 1 = .double FP.dconst1 ∧ f 2 = .double FP.dconst1) := by
  refine Con.of (plainFor_of_name (by first | (simp [plainName, overriddenIn]; done) | decide +kernel)) (L0 := #[.val (.ref a1), .val (.ref a2), .unset, .unset, .unset, .unset, .unset, .unset, .unset]) (fun m => by first | (simp [entryFrame, mkF, argsToLocals, Value.category]; done) | rfl) ?_
  intro p e s m below meth c T C S
  have Kp := Keep.refl h0 []
  refine g_dconst0 C S ds_0 (pc' := 1) rfl ?_
  refine g_dstoreN C S ds_1 (pc' := 2) rfl (L' := #[.val (.ref a1), .val (.ref a2), .val (.double FP.dconst0), .second, .unset, .unset, .unset, .unset, .unset]) rfl ?_
  refine g_iconst C S (0 : Int32) ds_2 (pc' := 3) rfl rfl ?_
  refine g_istore C S ds_3 (pc' := 5) rfl (L' := #[.val (.ref a1), .val (.ref a2), .val (.double FP.dconst0), .second, .val (.int (0 : Int32)), .unset, .unset, .unset, .unset]) rfl ?_
  refine g_iconst C S (0 : Int32) ds_5 (pc' := 6) rfl rfl ?_
  refine g_istore C S ds_6 (pc' := 8) rfl (L' := #[.val (.ref a1), .val (.ref a2), .val (.double FP.dconst0), .second, .val (.int (0 : Int32)), .val (.int (0 : Int32)), .unset, .unset, .unset]) rfl ?_
  refine g_iload C S ds_8 (pc' := 10) rfl rfl ?_
  refine g_aloadN C S ds_10 (pc' := 11) rfl rfl rfl ?_
  refine g_arraylength C S (x := (3 : Int32)) ds_11 A_a1 (by decide) (pc' := 12) rfl ?_
  refine g_icmp_ge C S ds_12 (pc' := 46) (pf := 15) (by decide) (by decide) rfl (fun hc12 => absurd (by decide) hc12) (fun hc12 => ?_)
  refine g_aloadN C S ds_15 (pc' := 16) rfl rfl rfl ?_
  refine g_iload C S ds_16 (pc' := 18) rfl rfl ?_
  refine g_laload C S (i := 0) (v := (.long c0)) ds_18 A_a1 (by decide) (by decide) hc0 (pc' := 19) rfl ?_
  refine g_lconst C S (0 : Int64) ds_19 (pc' := 20) rfl rfl ?_
  refine g_lcmp C S ds_20 (pc' := 21) rfl ?_
  refine g_lif_le C S ds_21 (pc' := 40) (pf := 24) (by decide) (by decide) rfl (fun hc21 => ?_) (fun hc21 => absurd hc21 s0)
  refine g_iincL C S (1 : Int32) (1 : Int32) ds_40 (pc' := 43) rfl rfl (by decide) rfl (L' := #[.val (.ref a1), .val (.ref a2), .val (.double FP.dconst0), .second, .val (.int (0 : Int32)), .val (.int (1 : Int32)), .unset, .unset, .unset]) rfl ?_
  refine g_goto C S ds_43 (pc' := 8) (by decide) (by decide) ?_
  refine g_iload C S ds_8 (pc' := 10) rfl rfl ?_
  refine g_aloadN C S ds_10 (pc' := 11) rfl rfl rfl ?_
  refine g_arraylength C S (x := (3 : Int32)) ds_11 A_a1 (by decide) (pc' := 12) rfl ?_
  refine g_icmp_ge C S ds_12 (pc' := 46) (pf := 15) (by decide) (by decide) rfl (fun hc12 => absurd (by decide) hc12) (fun hc12 => ?_)
  refine g_aloadN C S ds_15 (pc' := 16) rfl rfl rfl ?_
  refine g_iload C S ds_16 (pc' := 18) rfl rfl ?_
  refine g_laload C S (i := 1) (v := (.long c1)) ds_18 A_a1 (by decide) (by decide) hc1 (pc' := 19) rfl ?_
  refine g_lconst C S (0 : Int64) ds_19 (pc' := 20) rfl rfl ?_
  refine g_lcmp C S ds_20 (pc' := 21) rfl ?_
  refine g_lif_le C S ds_21 (pc' := 40) (pf := 24) (by decide) (by decide) rfl (fun hc21 => ?_) (fun hc21 => absurd hc21 s1)
  refine g_iincL C S (1 : Int32) (2 : Int32) ds_40 (pc' := 43) rfl rfl (by decide) rfl (L' := #[.val (.ref a1), .val (.ref a2), .val (.double FP.dconst0), .second, .val (.int (0 : Int32)), .val (.int (2 : Int32)), .unset, .unset, .unset]) rfl ?_
  refine g_goto C S ds_43 (pc' := 8) (by decide) (by decide) ?_
  refine g_iload C S ds_8 (pc' := 10) rfl rfl ?_
  refine g_aloadN C S ds_10 (pc' := 11) rfl rfl rfl ?_
  refine g_arraylength C S (x := (3 : Int32)) ds_11 A_a1 (by decide) (pc' := 12) rfl ?_
  refine g_icmp_ge C S ds_12 (pc' := 46) (pf := 15) (by decide) (by decide) rfl (fun hc12 => absurd (by decide) hc12) (fun hc12 => ?_)
  refine g_aloadN C S ds_15 (pc' := 16) rfl rfl rfl ?_
  refine g_iload C S ds_16 (pc' := 18) rfl rfl ?_
  refine g_laload C S (i := 2) (v := (.long c2)) ds_18 A_a1 (by decide) (by decide) hc2 (pc' := 19) rfl ?_
  refine g_lconst C S (0 : Int64) ds_19 (pc' := 20) rfl rfl ?_
  refine g_lcmp C S ds_20 (pc' := 21) rfl ?_
  refine g_lif_le C S ds_21 (pc' := 40) (pf := 24) (by decide) (by decide) rfl (fun hc21 => ?_) (fun hc21 => absurd hc21 s2)
  refine g_iincL C S (1 : Int32) (3 : Int32) ds_40 (pc' := 43) rfl rfl (by decide) rfl (L' := #[.val (.ref a1), .val (.ref a2), .val (.double FP.dconst0), .second, .val (.int (0 : Int32)), .val (.int (3 : Int32)), .unset, .unset, .unset]) rfl ?_
  refine g_goto C S ds_43 (pc' := 8) (by decide) (by decide) ?_
  refine g_iload C S ds_8 (pc' := 10) rfl rfl ?_
  refine g_aloadN C S ds_10 (pc' := 11) rfl rfl rfl ?_
  refine g_arraylength C S (x := (3 : Int32)) ds_11 A_a1 (by decide) (pc' := 12) rfl ?_
  refine g_icmp_ge C S ds_12 (pc' := 46) (pf := 15) (by decide) (by decide) rfl (fun hc12 => ?_) (fun hc12 => absurd hc12 (by decide))
  refine g_iload C S ds_46 (pc' := 48) rfl rfl ?_
  refine g_if_ne C S ds_48 (pc' := 55) (pf := 51) (by decide) (by decide) rfl (fun hc48 => absurd rfl hc48) (fun hc48 => ?_)
  refine g_dconst1 C S ds_51 (pc' := 52) rfl ?_
  refine g_goto C S ds_52 (pc' := 60) (by decide) (by decide) ?_
  refine g_dstore C S ds_60 (pc' := 62) rfl (L' := #[.val (.ref a1), .val (.ref a2), .val (.double FP.dconst0), .second, .val (.int (0 : Int32)), .val (.double FP.dconst1), .second, .unset, .unset]) rfl ?_
  refine g_aloadN C S ds_62 (pc' := 63) rfl rfl rfl ?_
  refine g_arraylength C S (x := (3 : Int32)) ds_63 A_a1 (by decide) (pc' := 64) rfl ?_
  refine g_newarray C S (N := 3) (cap := 3) ds_64 (hw _ (List.mem_of_getElem? (i := 4) rfl)) (by decide) (by decide) (by decide) (by decide) (by decide) (pc' := 66) rfl (fun T84 h84 a84 S g84 E84 A_a84 => ?_)
  have ne_a1_a84 : a1 ≠ a84 := ne_new g84 A_a1.lt
  have ne_a2_a84 : a2 ≠ a84 := ne_new g84 A_a2.lt
  have sz_a84 : h0.size ≤ a84 := ge_of g84 Kp.1
  have ge_a84 : n0 ≤ a84 := ge_of g84 Zn
  have Kp := Kp.ext E84
  have A_a1 := A_a1.ext E84
  have A_a2 := A_a2.ext E84
  have Zn := Nat.le_trans Zn E84.1
  have A_a84 : Ary Z h84 a84 .double 3 (fun _ => (.double 0)) := A_a84
  refine g_astore C S ds_66 (pc' := 68) rfl rfl (L' := #[.val (.ref a1), .val (.ref a2), .val (.double FP.dconst0), .second, .val (.int (0 : Int32)), .val (.double FP.dconst1), .second, .val (.ref a84), .unset]) rfl ?_
  refine g_iconst C S (0 : Int32) ds_68 (pc' := 69) rfl rfl ?_
  refine g_istore C S ds_69 (pc' := 71) rfl (L' := #[.val (.ref a1), .val (.ref a2), .val (.double FP.dconst0), .second, .val (.int (0 : Int32)), .val (.double FP.dconst1), .second, .val (.ref a84), .val (.int (0 : Int32))]) rfl ?_
  refine g_iload C S ds_71 (pc' := 73) rfl rfl ?_
  refine g_aload C S ds_73 (pc' := 75) rfl rfl rfl ?_
  refine g_arraylength C S (x := (3 : Int32)) ds_75 A_a84 (by decide) (pc' := 76) rfl ?_
  refine g_icmp_ge C S ds_76 (pc' := 114) (pf := 79) (by decide) (by decide) rfl (fun hc76 => absurd (by decide) hc76) (fun hc76 => ?_)
  refine g_aload C S ds_79 (pc' := 81) rfl rfl rfl ?_
  refine g_iload C S ds_81 (pc' := 83) rfl rfl ?_
  refine g_aloadN C S ds_83 (pc' := 84) rfl rfl rfl ?_
  refine g_iload C S ds_84 (pc' := 86) rfl rfl ?_
  refine g_laload C S (i := 0) (v := (.long c0)) ds_86 A_a1 (by decide) (by decide) hc0 (pc' := 87) rfl ?_
  refine g_lconst C S (0 : Int64) ds_87 (pc' := 88) rfl rfl ?_
  refine g_lcmp C S ds_88 (pc' := 89) rfl ?_
  refine g_lif_le C S ds_89 (pc' := 105) (pf := 92) (by decide) (by decide) rfl (fun hc89 => ?_) (fun hc89 => absurd hc89 s0)
  refine g_dload C S ds_105 (pc' := 107) rfl rfl ?_
  refine g_dastore C S (i := 0) ds_107 A_a84 (by decide) (by decide) ge_a84 (pc' := 108) rfl (fun T85 h85 S W85 B85 => ?_)
  have A_a1 := A_a1.other W85 ne_a1_a84
  have A_a2 := A_a2.other W85 ne_a2_a84
  have Zn := Nat.le_trans Zn (Nat.le_of_eq W85.size.symm)
  have A_a84 := B85
  have Kp := Kp.wr W85 (Or.inr sz_a84)
  refine g_iincL C S (1 : Int32) (1 : Int32) ds_108 (pc' := 111) rfl rfl (by decide) rfl (L' := #[.val (.ref a1), .val (.ref a2), .val (.double FP.dconst0), .second, .val (.int (0 : Int32)), .val (.double FP.dconst1), .second, .val (.ref a84), .val (.int (1 : Int32))]) rfl ?_
  refine g_goto C S ds_111 (pc' := 71) (by decide) (by decide) ?_
  refine g_iload C S ds_71 (pc' := 73) rfl rfl ?_
  refine g_aload C S ds_73 (pc' := 75) rfl rfl rfl ?_
  refine g_arraylength C S (x := (3 : Int32)) ds_75 A_a84 (by decide) (pc' := 76) rfl ?_
  refine g_icmp_ge C S ds_76 (pc' := 114) (pf := 79) (by decide) (by decide) rfl (fun hc76 => absurd (by decide) hc76) (fun hc76 => ?_)
  refine g_aload C S ds_79 (pc' := 81) rfl rfl rfl ?_
  refine g_iload C S ds_81 (pc' := 83) rfl rfl ?_
  refine g_aloadN C S ds_83 (pc' := 84) rfl rfl rfl ?_
  refine g_iload C S ds_84 (pc' := 86) rfl rfl ?_
  refine g_laload C S (i := 1) (v := (.long c1)) ds_86 A_a1 (by decide) (by decide) hc1 (pc' := 87) rfl ?_
  refine g_lconst C S (0 : Int64) ds_87 (pc' := 88) rfl rfl ?_
  refine g_lcmp C S ds_88 (pc' := 89) rfl ?_
  refine g_lif_le C S ds_89 (pc' := 105) (pf := 92) (by decide) (by decide) rfl (fun hc89 => ?_) (fun hc89 => absurd hc89 s1)
  refine g_dload C S ds_105 (pc' := 107) rfl rfl ?_
  refine g_dastore C S (i := 1) ds_107 A_a84 (by decide) (by decide) ge_a84 (pc' := 108) rfl (fun T86 h86 S W86 B86 => ?_)
  have A_a1 := A_a1.other W86 ne_a1_a84
  have A_a2 := A_a2.other W86 ne_a2_a84
  have Zn := Nat.le_trans Zn (Nat.le_of_eq W86.size.symm)
  have A_a84 := B86
  have Kp := Kp.wr W86 (Or.inr sz_a84)
  refine g_iincL C S (1 : Int32) (2 : Int32) ds_108 (pc' := 111) rfl rfl (by decide) rfl (L' := #[.val (.ref a1), .val (.ref a2), .val (.double FP.dconst0), .second, .val (.int (0 : Int32)), .val (.double FP.dconst1), .second, .val (.ref a84), .val (.int (2 : Int32))]) rfl ?_
  refine g_goto C S ds_111 (pc' := 71) (by decide) (by decide) ?_
  refine g_iload C S ds_71 (pc' := 73) rfl rfl ?_
  refine g_aload C S ds_73 (pc' := 75) rfl rfl rfl ?_
  refine g_arraylength C S (x := (3 : Int32)) ds_75 A_a84 (by decide) (pc' := 76) rfl ?_
  refine g_icmp_ge C S ds_76 (pc' := 114) (pf := 79) (by decide) (by decide) rfl (fun hc76 => absurd (by decide) hc76) (fun hc76 => ?_)
  refine g_aload C S ds_79 (pc' := 81) rfl rfl rfl ?_
  refine g_iload C S ds_81 (pc' := 83) rfl rfl ?_
  refine g_aloadN C S ds_83 (pc' := 84) rfl rfl rfl ?_
  refine g_iload C S ds_84 (pc' := 86) rfl rfl ?_
  refine g_laload C S (i := 2) (v := (.long c2)) ds_86 A_a1 (by decide) (by decide) hc2 (pc' := 87) rfl ?_
  refine g_lconst C S (0 : Int64) ds_87 (pc' := 88) rfl rfl ?_
  refine g_lcmp C S ds_88 (pc' := 89) rfl ?_
  refine g_lif_le C S ds_89 (pc' := 105) (pf := 92) (by decide) (by decide) rfl (fun hc89 => ?_) (fun hc89 => absurd hc89 s2)
  refine g_dload C S ds_105 (pc' := 107) rfl rfl ?_
  refine g_dastore C S (i := 2) ds_107 A_a84 (by decide) (by decide) ge_a84 (pc' := 108) rfl (fun T87 h87 S W87 B87 => ?_)
  have A_a1 := A_a1.other W87 ne_a1_a84
  have A_a2 := A_a2.other W87 ne_a2_a84
  have Zn := Nat.le_trans Zn (Nat.le_of_eq W87.size.symm)
  have A_a84 := B87
  have Kp := Kp.wr W87 (Or.inr sz_a84)
  refine g_iincL C S (1 : Int32) (3 : Int32) ds_108 (pc' := 111) rfl rfl (by decide) rfl (L' := #[.val (.ref a1), .val (.ref a2), .val (.double FP.dconst0), .second, .val (.int (0 : Int32)), .val (.double FP.dconst1), .second, .val (.ref a84), .val (.int (3 : Int32))]) rfl ?_
  refine g_goto C S ds_111 (pc' := 71) (by decide) (by decide) ?_
  refine g_iload C S ds_71 (pc' := 73) rfl rfl ?_
  refine g_aload C S ds_73 (pc' := 75) rfl rfl rfl ?_
  refine g_arraylength C S (x := (3 : Int32)) ds_75 A_a84 (by decide) (pc' := 76) rfl ?_
  refine g_icmp_ge C S ds_76 (pc' := 114) (pf := 79) (by decide) (by decide) rfl (fun hc76 => ?_) (fun hc76 => absurd hc76 (by decide))
  refine g_aload C S ds_114 (pc' := 116) rfl rfl rfl ?_
  exact g_retA C S ds_116 rfl rfl rfl (by decide) (by decide) (⟨a84, _, rfl, ge_a84, sz_a84, Kp, A_a84, rfl, rfl, rfl⟩)
set_option maxRecDepth 65536 in
set_option maxHeartbeats 40000000 in
theorem c_wt000 (l : Launch) (Z : State) (a0 : Array Value) (hw : ∀ d ∈ tables_1, d.before a0 Z = true) (a1 : Addr) (a2 : Addr) (a3 : Addr) (h0 : Heap) (n0 : Nat) (c0 c1 c2 : Int64) (t0 t1 t2 : UInt64) (fc ft : Nat → Value) (m0 : Jvm.Free.Fl.Mag64 1056 t0) (m1 : Jvm.Free.Fl.Mag64 1056 t1) (m2 : Jvm.Free.Fl.Mag64 1056 t2) (hc0 : fc 0 = .long c0) (hc1 : fc 1 = .long c1) (hc2 : fc 2 = .long c2) (ht0 : ft 0 = .double t0) (ht1 : ft 1 = .double t1) (ht2 : ft 2 = .double t2) (q0 q1 q2 : Int64) (fq : Nat → Value) (hq0 : fq 0 = .long q0) (hq1 : fq 1 = .long q1) (hq2 : fq 2 = .long q2) (s0 : ¬ (0 : Int64) < c0) (s1 : ¬ (0 : Int64) < c1) (s2 : ¬ (0 : Int64) < c2) (Zn : n0 ≤ h0.size) (A_a1 : Ary Z h0 a1 .long 3 fq) (A_a2 : Ary Z h0 a2 .long 3 fc) (A_a3 : Ary Z h0 a3 .double 3 ft) :
    Con l Z (⟨"com/example/tuned_conveyor/tunedconveyor/Allocation", "weights", "([J[J[D)[D"⟩ : MethodName) prog_1_method_17_code 6 (some (.array .double)) ({ frames := 1, cells := 2, slots := 6, locals := 20 } : Room) #[(.ref a1), (.ref a2), (.ref a3)] h0 n0 (fun v h => ∃ (b : Addr) (f : Nat → Value), v = some (.ref b) ∧ n0 ≤ b ∧ h0.size ≤ b ∧ Ary Z h b .double 3 f ∧ f 0 = .double (FP.dmul (FP.l2d q0) FP.dconst1) ∧ f 1 = .double (FP.dmul (FP.l2d q1) FP.dconst1) ∧ f 2 = .double (FP.dmul (FP.l2d q2) FP.dconst1)) := by
  refine Con.of (plainFor_of_name (by first | (simp [plainName, overriddenIn]; done) | decide +kernel)) (L0 := #[.val (.ref a1), .val (.ref a2), .val (.ref a3), .unset, .unset, .unset]) (fun m => by first | (simp [entryFrame, mkF, argsToLocals, Value.category]; done) | rfl) ?_
  intro p e s m below meth c T C S
  have Kp := Keep.refl h0 []
  have lt_a1 := A_a1.lt
  refine g_aloadN C S dw_0 (pc' := 1) rfl rfl rfl ?_
  refine g_aloadN C S dw_1 (pc' := 2) rfl rfl rfl ?_
  refine g_callS C S (rm := ({ frames := 0, cells := 1, slots := 3, locals := 0 } : Room)) (W := 0) dw_2 (hw _ (List.mem_of_getElem? (i := 9) rfl)) (hw _ (List.mem_of_getElem? (i := 10) rfl)) (hw _ (List.mem_of_getElem? (i := 7) rfl)) (hw _ (List.mem_of_getElem? (i := 11) rfl)) (by decide) (c_st000 l Z a0 hw a2 a3 h0 n0 c0 c1 c2 t0 t1 t2 fc ft m0 m1 m2 hc0 hc1 hc2 ht0 ht1 ht2 s0 s1 s2 Zn A_a2 A_a3) (argsL := [(.ref a2), (.ref a3)]) (r := []) rfl (lenOf pd_0 rfl) rfl (Nat.le_of_eq rfl) (by decide) (by decide) (by decide) (by decide) (pc' := 5) rfl (fun T88 h88 v88 q88 S => ?_)
  obtain ⟨b88, fs, rfl, ge_b88, sz_b88, K88, A_b88, hs0, hs1, hs2⟩ := q88
  have Kp := Kp.trans K88 all0
  have A_a1 := A_a1.keep K88 nin0
  have Zn := Nat.le_trans Zn K88.1
  have ne_a1_b88 : a1 ≠ b88 := Nat.ne_of_lt (Nat.lt_of_lt_of_le lt_a1 sz_b88)
  show Gl p e below s _ n0 _ T88 (mkF m 5 #[.val (.ref a1), .val (.ref a2), .val (.ref a3), .unset, .unset, .unset] [(.ref b88)])
  refine g_astoreN C S dw_5 (pc' := 6) rfl rfl (L' := #[.val (.ref a1), .val (.ref a2), .val (.ref a3), .val (.ref b88), .unset, .unset]) rfl ?_
  refine g_aloadN C S dw_6 (pc' := 7) rfl rfl rfl ?_
  refine g_arraylength C S (x := (3 : Int32)) dw_7 A_b88 (by decide) (pc' := 8) rfl ?_
  refine g_newarray C S (N := 3) (cap := 3) dw_8 (hw _ (List.mem_of_getElem? (i := 4) rfl)) (by decide) (by decide) (by decide) (by decide) (by decide) (pc' := 10) rfl (fun T89 h89 a89 S g89 E89 A_a89 => ?_)
  have ne_a1_a89 : a1 ≠ a89 := ne_new g89 A_a1.lt
  have ne_b88_a89 : b88 ≠ a89 := ne_new g89 A_b88.lt
  have sz_a89 : h0.size ≤ a89 := ge_of g89 Kp.1
  have ge_a89 : n0 ≤ a89 := ge_of g89 Zn
  have Kp := Kp.ext E89
  have A_a1 := A_a1.ext E89
  have Zn := Nat.le_trans Zn E89.1
  have A_b88 := A_b88.ext E89
  have A_a89 : Ary Z h89 a89 .double 3 (fun _ => (.double 0)) := A_a89
  refine g_astore C S dw_10 (pc' := 12) rfl rfl (L' := #[.val (.ref a1), .val (.ref a2), .val (.ref a3), .val (.ref b88), .val (.ref a89), .unset]) rfl ?_
  refine g_iconst C S (0 : Int32) dw_12 (pc' := 13) rfl rfl ?_
  refine g_istore C S dw_13 (pc' := 15) rfl (L' := #[.val (.ref a1), .val (.ref a2), .val (.ref a3), .val (.ref b88), .val (.ref a89), .val (.int (0 : Int32))]) rfl ?_
  refine g_iload C S dw_15 (pc' := 17) rfl rfl ?_
  refine g_aload C S dw_17 (pc' := 19) rfl rfl rfl ?_
  refine g_arraylength C S (x := (3 : Int32)) dw_19 A_a89 (by decide) (pc' := 20) rfl ?_
  refine g_icmp_ge C S dw_20 (pc' := 44) (pf := 23) (by decide) (by decide) rfl (fun hc20 => absurd (by decide) hc20) (fun hc20 => ?_)
  refine g_aload C S dw_23 (pc' := 25) rfl rfl rfl ?_
  refine g_iload C S dw_25 (pc' := 27) rfl rfl ?_
  refine g_aloadN C S dw_27 (pc' := 28) rfl rfl rfl ?_
  refine g_iload C S dw_28 (pc' := 30) rfl rfl ?_
  refine g_laload C S (i := 0) (v := (.long q0)) dw_30 A_a1 (by decide) (by decide) hq0 (pc' := 31) rfl ?_
  refine g_l2d C S dw_31 (pc' := 32) rfl ?_
  refine g_aloadN C S dw_32 (pc' := 33) rfl rfl rfl ?_
  refine g_iload C S dw_33 (pc' := 35) rfl rfl ?_
  refine g_daload C S (i := 0) (v := (.double FP.dconst1)) dw_35 A_b88 (by decide) (by decide) hs0 (pc' := 36) rfl ?_
  refine g_dmul C S dw_36 (pc' := 37) rfl (nn_of (Jvm.Free.Fl.dmul_mag (Ka := 1088) (Kb := 1056) (Jvm.Free.Fl.l2d_mag _) own_mag1 (by decide) (by decide)) (by decide)) ?_
  refine g_dastore C S (i := 0) dw_37 A_a89 (by decide) (by decide) ge_a89 (pc' := 38) rfl (fun T90 h90 S W90 B90 => ?_)
  have A_a1 := A_a1.other W90 ne_a1_a89
  have Zn := Nat.le_trans Zn (Nat.le_of_eq W90.size.symm)
  have A_b88 := A_b88.other W90 ne_b88_a89
  have A_a89 := B90
  have Kp := Kp.wr W90 (Or.inr sz_a89)
  refine g_iincL C S (1 : Int32) (1 : Int32) dw_38 (pc' := 41) rfl rfl (by decide) rfl (L' := #[.val (.ref a1), .val (.ref a2), .val (.ref a3), .val (.ref b88), .val (.ref a89), .val (.int (1 : Int32))]) rfl ?_
  refine g_goto C S dw_41 (pc' := 15) (by decide) (by decide) ?_
  refine g_iload C S dw_15 (pc' := 17) rfl rfl ?_
  refine g_aload C S dw_17 (pc' := 19) rfl rfl rfl ?_
  refine g_arraylength C S (x := (3 : Int32)) dw_19 A_a89 (by decide) (pc' := 20) rfl ?_
  refine g_icmp_ge C S dw_20 (pc' := 44) (pf := 23) (by decide) (by decide) rfl (fun hc20 => absurd (by decide) hc20) (fun hc20 => ?_)
  refine g_aload C S dw_23 (pc' := 25) rfl rfl rfl ?_
  refine g_iload C S dw_25 (pc' := 27) rfl rfl ?_
  refine g_aloadN C S dw_27 (pc' := 28) rfl rfl rfl ?_
  refine g_iload C S dw_28 (pc' := 30) rfl rfl ?_
  refine g_laload C S (i := 1) (v := (.long q1)) dw_30 A_a1 (by decide) (by decide) hq1 (pc' := 31) rfl ?_
  refine g_l2d C S dw_31 (pc' := 32) rfl ?_
  refine g_aloadN C S dw_32 (pc' := 33) rfl rfl rfl ?_
  refine g_iload C S dw_33 (pc' := 35) rfl rfl ?_
  refine g_daload C S (i := 1) (v := (.double FP.dconst1)) dw_35 A_b88 (by decide) (by decide) hs1 (pc' := 36) rfl ?_
  refine g_dmul C S dw_36 (pc' := 37) rfl (nn_of (Jvm.Free.Fl.dmul_mag (Ka := 1088) (Kb := 1056) (Jvm.Free.Fl.l2d_mag _) own_mag1 (by decide) (by decide)) (by decide)) ?_
  refine g_dastore C S (i := 1) dw_37 A_a89 (by decide) (by decide) ge_a89 (pc' := 38) rfl (fun T91 h91 S W91 B91 => ?_)
  have A_a1 := A_a1.other W91 ne_a1_a89
  have Zn := Nat.le_trans Zn (Nat.le_of_eq W91.size.symm)
  have A_b88 := A_b88.other W91 ne_b88_a89
  have A_a89 := B91
  have Kp := Kp.wr W91 (Or.inr sz_a89)
  refine g_iincL C S (1 : Int32) (2 : Int32) dw_38 (pc' := 41) rfl rfl (by decide) rfl (L' := #[.val (.ref a1), .val (.ref a2), .val (.ref a3), .val (.ref b88), .val (.ref a89), .val (.int (2 : Int32))]) rfl ?_
  refine g_goto C S dw_41 (pc' := 15) (by decide) (by decide) ?_
  refine g_iload C S dw_15 (pc' := 17) rfl rfl ?_
  refine g_aload C S dw_17 (pc' := 19) rfl rfl rfl ?_
  refine g_arraylength C S (x := (3 : Int32)) dw_19 A_a89 (by decide) (pc' := 20) rfl ?_
  refine g_icmp_ge C S dw_20 (pc' := 44) (pf := 23) (by decide) (by decide) rfl (fun hc20 => absurd (by decide) hc20) (fun hc20 => ?_)
  refine g_aload C S dw_23 (pc' := 25) rfl rfl rfl ?_
  refine g_iload C S dw_25 (pc' := 27) rfl rfl ?_
  refine g_aloadN C S dw_27 (pc' := 28) rfl rfl rfl ?_
  refine g_iload C S dw_28 (pc' := 30) rfl rfl ?_
  refine g_laload C S (i := 2) (v := (.long q2)) dw_30 A_a1 (by decide) (by decide) hq2 (pc' := 31) rfl ?_
  refine g_l2d C S dw_31 (pc' := 32) rfl ?_
  refine g_aloadN C S dw_32 (pc' := 33) rfl rfl rfl ?_
  refine g_iload C S dw_33 (pc' := 35) rfl rfl ?_
  refine g_daload C S (i := 2) (v := (.double FP.dconst1)) dw_35 A_b88 (by decide) (by decide) hs2 (pc' := 36) rfl ?_
  refine g_dmul C S dw_36 (pc' := 37) rfl (nn_of (Jvm.Free.Fl.dmul_mag (Ka := 1088) (Kb := 1056) (Jvm.Free.Fl.l2d_mag _) own_mag1 (by decide) (by decide)) (by decide)) ?_
  refine g_dastore C S (i := 2) dw_37 A_a89 (by decide) (by decide) ge_a89 (pc' := 38) rfl (fun T92 h92 S W92 B92 => ?_)
  have A_a1 := A_a1.other W92 ne_a1_a89
  have Zn := Nat.le_trans Zn (Nat.le_of_eq W92.size.symm)
  have A_b88 := A_b88.other W92 ne_b88_a89
  have A_a89 := B92
  have Kp := Kp.wr W92 (Or.inr sz_a89)
  refine g_iincL C S (1 : Int32) (3 : Int32) dw_38 (pc' := 41) rfl rfl (by decide) rfl (L' := #[.val (.ref a1), .val (.ref a2), .val (.ref a3), .val (.ref b88), .val (.ref a89), .val (.int (3 : Int32))]) rfl ?_
  refine g_goto C S dw_41 (pc' := 15) (by decide) (by decide) ?_
  refine g_iload C S dw_15 (pc' := 17) rfl rfl ?_
  refine g_aload C S dw_17 (pc' := 19) rfl rfl rfl ?_
  refine g_arraylength C S (x := (3 : Int32)) dw_19 A_a89 (by decide) (pc' := 20) rfl ?_
  refine g_icmp_ge C S dw_20 (pc' := 44) (pf := 23) (by decide) (by decide) rfl (fun hc20 => ?_) (fun hc20 => absurd hc20 (by decide))
  refine g_aload C S dw_44 (pc' := 46) rfl rfl rfl ?_
  exact g_retA C S dw_46 rfl rfl rfl (by decide) (by decide) (⟨a89, _, rfl, ge_a89, sz_a89, A_a89, rfl, rfl, rfl⟩)
theorem pd_1 : parseMethodDescriptor "([J[J[D)[D" = some ⟨[(.array .long), (.array .long), (.array .double)], some (.array .double)⟩ := by decide +kernel
set_option maxRecDepth 65536 in
set_option maxHeartbeats 40000000 in
theorem c_law (l : Launch) (Z : State) (a0 : Array Value) (hw : ∀ d ∈ tables_1, d.before a0 Z = true) (q1 : Int64) (q2 : Int64) (q3 : Int64) (q4 : Int64) (q5 : Int64) (q6 : Int64) (h0 : Heap) (n0 : Nat) (Zn : n0 ≤ h0.size) :
    Con l Z x code maxLocals ret room_1 #[(.long q1), (.long q2), (.long q3), (.long q4), (.long q5), (.long q6)] h0 n0 (fun v h => v = some (.int 1)) := by
  refine Con.of (plainFor_of_name (by first | (simp [plainName, overriddenIn, x]; done) | decide +kernel)) (L0 := #[.val (.long q1), .second, .val (.long q2), .second, .val (.long q3), .second, .val (.long q4), .second, .val (.long q5), .second, .val (.long q6), .second, .unset, .unset, .unset, .unset, .unset, .unset, .unset, .unset, .unset, .unset, .unset, .unset, .unset, .unset, .unset, .unset, .unset, .unset, .unset, .unset, .unset, .unset, .unset, .unset, .unset, .unset, .unset, .unset, .unset, .unset, .unset, .unset, .unset, .unset, .unset, .unset, .unset, .unset, .unset]) (fun m => by first | (simp [entryFrame, mkF, argsToLocals, Value.category, maxLocals]; done) | rfl) ?_
  intro p e s m below meth c T C S
  refine g_lloadN C S at_0 (pc' := 1) rfl rfl ?_
  refine g_ldc2 C S at_1 (hw _ (List.mem_of_getElem? (i := 0) rfl)) (pc' := 4) rfl ?_
  refine g_land C S at_4 (pc' := 5) rfl ?_
  refine g_lstore C S at_5 (pc' := 7) rfl (L' := #[.val (.long q1), .second, .val (.long q2), .second, .val (.long q3), .second, .val (.long q4), .second, .val (.long q5), .second, .val (.long q6), .second, .val (.long (q1 &&& (9223372036854775807 : Int64))), .second, .unset, .unset, .unset, .unset, .unset, .unset, .unset, .unset, .unset, .unset, .unset, .unset, .unset, .unset, .unset, .unset, .unset, .unset, .unset, .unset, .unset, .unset, .unset, .unset, .unset, .unset, .unset, .unset, .unset, .unset, .unset, .unset, .unset, .unset, .unset, .unset, .unset]) rfl ?_
  obtain ⟨qa, e_qa⟩ : ∃ z, z = (q1 &&& (9223372036854775807 : Int64)) := ⟨_, rfl⟩
  rw [← e_qa]
  refine g_lloadN C S at_7 (pc' := 8) rfl rfl ?_
  refine g_ldc2 C S at_8 (hw _ (List.mem_of_getElem? (i := 0) rfl)) (pc' := 11) rfl ?_
  refine g_land C S at_11 (pc' := 12) rfl ?_
  refine g_lstore C S at_12 (pc' := 14) rfl (L' := #[.val (.long q1), .second, .val (.long q2), .second, .val (.long q3), .second, .val (.long q4), .second, .val (.long q5), .second, .val (.long q6), .second, .val (.long qa), .second, .val (.long (q2 &&& (9223372036854775807 : Int64))), .second, .unset, .unset, .unset, .unset, .unset, .unset, .unset, .unset, .unset, .unset, .unset, .unset, .unset, .unset, .unset, .unset, .unset, .unset, .unset, .unset, .unset, .unset, .unset, .unset, .unset, .unset, .unset, .unset, .unset, .unset, .unset, .unset, .unset, .unset, .unset]) rfl ?_
  obtain ⟨qb, e_qb⟩ : ∃ z, z = (q2 &&& (9223372036854775807 : Int64)) := ⟨_, rfl⟩
  rw [← e_qb]
  refine g_lload C S at_14 (pc' := 16) rfl rfl ?_
  refine g_ldc2 C S at_16 (hw _ (List.mem_of_getElem? (i := 0) rfl)) (pc' := 19) rfl ?_
  refine g_land C S at_19 (pc' := 20) rfl ?_
  refine g_lstore C S at_20 (pc' := 22) rfl (L' := #[.val (.long q1), .second, .val (.long q2), .second, .val (.long q3), .second, .val (.long q4), .second, .val (.long q5), .second, .val (.long q6), .second, .val (.long qa), .second, .val (.long qb), .second, .val (.long (q3 &&& (9223372036854775807 : Int64))), .second, .unset, .unset, .unset, .unset, .unset, .unset, .unset, .unset, .unset, .unset, .unset, .unset, .unset, .unset, .unset, .unset, .unset, .unset, .unset, .unset, .unset, .unset, .unset, .unset, .unset, .unset, .unset, .unset, .unset, .unset, .unset, .unset, .unset]) rfl ?_
  obtain ⟨qc, e_qc⟩ : ∃ z, z = (q3 &&& (9223372036854775807 : Int64)) := ⟨_, rfl⟩
  rw [← e_qc]
  refine g_lload C S at_22 (pc' := 24) rfl rfl ?_
  refine g_ldc2 C S at_24 (hw _ (List.mem_of_getElem? (i := 0) rfl)) (pc' := 27) rfl ?_
  refine g_land C S at_27 (pc' := 28) rfl ?_
  refine g_lstore C S at_28 (pc' := 30) rfl (L' := #[.val (.long q1), .second, .val (.long q2), .second, .val (.long q3), .second, .val (.long q4), .second, .val (.long q5), .second, .val (.long q6), .second, .val (.long qa), .second, .val (.long qb), .second, .val (.long qc), .second, .val (.long (q4 &&& (9223372036854775807 : Int64))), .second, .unset, .unset, .unset, .unset, .unset, .unset, .unset, .unset, .unset, .unset, .unset, .unset, .unset, .unset, .unset, .unset, .unset, .unset, .unset, .unset, .unset, .unset, .unset, .unset, .unset, .unset, .unset, .unset, .unset, .unset, .unset]) rfl ?_
  obtain ⟨ca, e_ca⟩ : ∃ z, z = (q4 &&& (9223372036854775807 : Int64)) := ⟨_, rfl⟩
  rw [← e_ca]
  refine g_lload C S at_30 (pc' := 32) rfl rfl ?_
  refine g_ldc2 C S at_32 (hw _ (List.mem_of_getElem? (i := 0) rfl)) (pc' := 35) rfl ?_
  refine g_land C S at_35 (pc' := 36) rfl ?_
  refine g_lstore C S at_36 (pc' := 38) rfl (L' := #[.val (.long q1), .second, .val (.long q2), .second, .val (.long q3), .second, .val (.long q4), .second, .val (.long q5), .second, .val (.long q6), .second, .val (.long qa), .second, .val (.long qb), .second, .val (.long qc), .second, .val (.long ca), .second, .val (.long (q5 &&& (9223372036854775807 : Int64))), .second, .unset, .unset, .unset, .unset, .unset, .unset, .unset, .unset, .unset, .unset, .unset, .unset, .unset, .unset, .unset, .unset, .unset, .unset, .unset, .unset, .unset, .unset, .unset, .unset, .unset, .unset, .unset, .unset, .unset]) rfl ?_
  obtain ⟨cb, e_cb⟩ : ∃ z, z = (q5 &&& (9223372036854775807 : Int64)) := ⟨_, rfl⟩
  rw [← e_cb]
  refine g_lload C S at_38 (pc' := 40) rfl rfl ?_
  refine g_bipush C S (48 : Int32) at_40 (pc' := 42) rfl rfl ?_
  refine g_lushr C S at_42 (pc' := 43) rfl ?_
  refine g_ldc2 C S at_43 (hw _ (List.mem_of_getElem? (i := 1) rfl)) (pc' := 46) rfl ?_
  refine g_land C S at_46 (pc' := 47) rfl ?_
  refine g_lstore C S at_47 (pc' := 49) rfl (L' := #[.val (.long q1), .second, .val (.long q2), .second, .val (.long q3), .second, .val (.long q4), .second, .val (.long q5), .second, .val (.long q6), .second, .val (.long qa), .second, .val (.long qb), .second, .val (.long qc), .second, .val (.long ca), .second, .val (.long cb), .second, .val (.long (((q6.toUInt64 >>> ((48 : Int32) &&& 0x3f).toInt64.toUInt64).toInt64) &&& (255 : Int64))), .second, .unset, .unset, .unset, .unset, .unset, .unset, .unset, .unset, .unset, .unset, .unset, .unset, .unset, .unset, .unset, .unset, .unset, .unset, .unset, .unset, .unset, .unset, .unset, .unset, .unset, .unset, .unset]) rfl ?_
  obtain ⟨cc, e_cc⟩ : ∃ z, z = (((q6.toUInt64 >>> ((48 : Int32) &&& 0x3f).toInt64.toUInt64).toInt64) &&& (255 : Int64)) := ⟨_, rfl⟩
  rw [← e_cc]
  refine g_lload C S at_49 (pc' := 51) rfl rfl ?_
  refine g_lconst C S (0 : Int64) at_51 (pc' := 52) rfl rfl ?_
  refine g_lcmp C S at_52 (pc' := 53) rfl ?_
  refine g_lif_le C S at_53 (pc' := 67) (pf := 56) (by decide) (by decide) rfl (fun hc53 => ?_) (fun hc53 => ?_)
  · refine g_dconst0 C S at_67 (pc' := 68) rfl ?_
    refine g_dstore C S at_68 (pc' := 70) rfl (L' := #[.val (.long q1), .second, .val (.long q2), .second, .val (.long q3), .second, .val (.long q4), .second, .val (.long q5), .second, .val (.long q6), .second, .val (.long qa), .second, .val (.long qb), .second, .val (.long qc), .second, .val (.long ca), .second, .val (.long cb), .second, .val (.long cc), .second, .val (.double FP.dconst0), .second, .unset, .unset, .unset, .unset, .unset, .unset, .unset, .unset, .unset, .unset, .unset, .unset, .unset, .unset, .unset, .unset, .unset, .unset, .unset, .unset, .unset, .unset, .unset, .unset, .unset]) rfl ?_
    refine g_lload C S at_70 (pc' := 72) rfl rfl ?_
    refine g_lconst C S (0 : Int64) at_72 (pc' := 73) rfl rfl ?_
    refine g_lcmp C S at_73 (pc' := 74) rfl ?_
    refine g_lif_le C S at_74 (pc' := 91) (pf := 77) (by decide) (by decide) rfl (fun hc74 => ?_) (fun hc74 => ?_)
    · refine g_dconst0 C S at_91 (pc' := 92) rfl ?_
      refine g_dstore C S at_92 (pc' := 94) rfl (L' := #[.val (.long q1), .second, .val (.long q2), .second, .val (.long q3), .second, .val (.long q4), .second, .val (.long q5), .second, .val (.long q6), .second, .val (.long qa), .second, .val (.long qb), .second, .val (.long qc), .second, .val (.long ca), .second, .val (.long cb), .second, .val (.long cc), .second, .val (.double FP.dconst0), .second, .val (.double FP.dconst0), .second, .unset, .unset, .unset, .unset, .unset, .unset, .unset, .unset, .unset, .unset, .unset, .unset, .unset, .unset, .unset, .unset, .unset, .unset, .unset, .unset, .unset, .unset, .unset]) rfl ?_
      refine g_lload C S at_94 (pc' := 96) rfl rfl ?_
      refine g_lconst C S (0 : Int64) at_96 (pc' := 97) rfl rfl ?_
      refine g_lcmp C S at_97 (pc' := 98) rfl ?_
      refine g_lif_le C S at_98 (pc' := 115) (pf := 101) (by decide) (by decide) rfl (fun hc98 => ?_) (fun hc98 => ?_)
      · refine g_dconst0 C S at_115 (pc' := 116) rfl ?_
        refine g_dstore C S at_116 (pc' := 118) rfl (L' := #[.val (.long q1), .second, .val (.long q2), .second, .val (.long q3), .second, .val (.long q4), .second, .val (.long q5), .second, .val (.long q6), .second, .val (.long qa), .second, .val (.long qb), .second, .val (.long qc), .second, .val (.long ca), .second, .val (.long cb), .second, .val (.long cc), .second, .val (.double FP.dconst0), .second, .val (.double FP.dconst0), .second, .val (.double FP.dconst0), .second, .unset, .unset, .unset, .unset, .unset, .unset, .unset, .unset, .unset, .unset, .unset, .unset, .unset, .unset, .unset, .unset, .unset, .unset, .unset, .unset, .unset]) rfl ?_
        refine g_iconst C S (3 : Int32) at_118 (pc' := 119) rfl rfl ?_
        refine g_newarray C S (N := 3) (cap := 3) at_119 (hw _ (List.mem_of_getElem? (i := 3) rfl)) (by decide) (by decide) (by decide) (by decide) (by decide) (pc' := 121) rfl (fun T93 h93 a93 S g93 E93 A_a93 => ?_)
        have ge_a93 : n0 ≤ a93 := ge_of g93 Zn
        have Zn := Nat.le_trans Zn E93.1
        have A_a93 : Ary Z h93 a93 .long 3 (fun _ => (.long (0 : Int64))) := A_a93
        refine g_dup C S at_121 (pc' := 122) rfl rfl ?_
        refine g_iconst C S (0 : Int32) at_122 (pc' := 123) rfl rfl ?_
        refine g_lload C S at_123 (pc' := 125) rfl rfl ?_
        refine g_lastore C S (i := 0) at_125 A_a93 (by decide) (by decide) ge_a93 (pc' := 126) rfl (fun T94 h94 S W94 B94 => ?_)
        have Zn := Nat.le_trans Zn (Nat.le_of_eq W94.size.symm)
        have A_a93 := B94
        refine g_dup C S at_126 (pc' := 127) rfl rfl ?_
        refine g_iconst C S (1 : Int32) at_127 (pc' := 128) rfl rfl ?_
        refine g_lload C S at_128 (pc' := 130) rfl rfl ?_
        refine g_lastore C S (i := 1) at_130 A_a93 (by decide) (by decide) ge_a93 (pc' := 131) rfl (fun T95 h95 S W95 B95 => ?_)
        have Zn := Nat.le_trans Zn (Nat.le_of_eq W95.size.symm)
        have A_a93 := B95
        refine g_dup C S at_131 (pc' := 132) rfl rfl ?_
        refine g_iconst C S (2 : Int32) at_132 (pc' := 133) rfl rfl ?_
        refine g_lload C S at_133 (pc' := 135) rfl rfl ?_
        refine g_lastore C S (i := 2) at_135 A_a93 (by decide) (by decide) ge_a93 (pc' := 136) rfl (fun T96 h96 S W96 B96 => ?_)
        have Zn := Nat.le_trans Zn (Nat.le_of_eq W96.size.symm)
        have A_a93 := B96
        refine g_astore C S at_136 (pc' := 138) rfl rfl (L' := #[.val (.long q1), .second, .val (.long q2), .second, .val (.long q3), .second, .val (.long q4), .second, .val (.long q5), .second, .val (.long q6), .second, .val (.long qa), .second, .val (.long qb), .second, .val (.long qc), .second, .val (.long ca), .second, .val (.long cb), .second, .val (.long cc), .second, .val (.double FP.dconst0), .second, .val (.double FP.dconst0), .second, .val (.double FP.dconst0), .second, .val (.ref a93), .unset, .unset, .unset, .unset, .unset, .unset, .unset, .unset, .unset, .unset, .unset, .unset, .unset, .unset, .unset, .unset, .unset, .unset, .unset, .unset]) rfl ?_
        refine g_iconst C S (3 : Int32) at_138 (pc' := 139) rfl rfl ?_
        refine g_newarray C S (N := 3) (cap := 3) at_139 (hw _ (List.mem_of_getElem? (i := 3) rfl)) (by decide) (by decide) (by decide) (by decide) (by decide) (pc' := 141) rfl (fun T97 h97 a97 S g97 E97 A_a97 => ?_)
        have ne_a93_a97 : a93 ≠ a97 := ne_new g97 A_a93.lt
        have ge_a97 : n0 ≤ a97 := ge_of g97 Zn
        have Zn := Nat.le_trans Zn E97.1
        have A_a93 := A_a93.ext E97
        have A_a97 : Ary Z h97 a97 .long 3 (fun _ => (.long (0 : Int64))) := A_a97
        refine g_dup C S at_141 (pc' := 142) rfl rfl ?_
        refine g_iconst C S (0 : Int32) at_142 (pc' := 143) rfl rfl ?_
        refine g_lload C S at_143 (pc' := 145) rfl rfl ?_
        refine g_lastore C S (i := 0) at_145 A_a97 (by decide) (by decide) ge_a97 (pc' := 146) rfl (fun T98 h98 S W98 B98 => ?_)
        have Zn := Nat.le_trans Zn (Nat.le_of_eq W98.size.symm)
        have A_a93 := A_a93.other W98 ne_a93_a97
        have A_a97 := B98
        refine g_dup C S at_146 (pc' := 147) rfl rfl ?_
        refine g_iconst C S (1 : Int32) at_147 (pc' := 148) rfl rfl ?_
        refine g_lload C S at_148 (pc' := 150) rfl rfl ?_
        refine g_lastore C S (i := 1) at_150 A_a97 (by decide) (by decide) ge_a97 (pc' := 151) rfl (fun T99 h99 S W99 B99 => ?_)
        have Zn := Nat.le_trans Zn (Nat.le_of_eq W99.size.symm)
        have A_a93 := A_a93.other W99 ne_a93_a97
        have A_a97 := B99
        refine g_dup C S at_151 (pc' := 152) rfl rfl ?_
        refine g_iconst C S (2 : Int32) at_152 (pc' := 153) rfl rfl ?_
        refine g_lload C S at_153 (pc' := 155) rfl rfl ?_
        refine g_lastore C S (i := 2) at_155 A_a97 (by decide) (by decide) ge_a97 (pc' := 156) rfl (fun T100 h100 S W100 B100 => ?_)
        have Zn := Nat.le_trans Zn (Nat.le_of_eq W100.size.symm)
        have A_a93 := A_a93.other W100 ne_a93_a97
        have A_a97 := B100
        refine g_astore C S at_156 (pc' := 158) rfl rfl (L' := #[.val (.long q1), .second, .val (.long q2), .second, .val (.long q3), .second, .val (.long q4), .second, .val (.long q5), .second, .val (.long q6), .second, .val (.long qa), .second, .val (.long qb), .second, .val (.long qc), .second, .val (.long ca), .second, .val (.long cb), .second, .val (.long cc), .second, .val (.double FP.dconst0), .second, .val (.double FP.dconst0), .second, .val (.double FP.dconst0), .second, .val (.ref a93), .val (.ref a97), .unset, .unset, .unset, .unset, .unset, .unset, .unset, .unset, .unset, .unset, .unset, .unset, .unset, .unset, .unset, .unset, .unset, .unset, .unset]) rfl ?_
        refine g_iconst C S (3 : Int32) at_158 (pc' := 159) rfl rfl ?_
        refine g_newarray C S (N := 3) (cap := 3) at_159 (hw _ (List.mem_of_getElem? (i := 4) rfl)) (by decide) (by decide) (by decide) (by decide) (by decide) (pc' := 161) rfl (fun T101 h101 a101 S g101 E101 A_a101 => ?_)
        have ne_a93_a101 : a93 ≠ a101 := ne_new g101 A_a93.lt
        have ne_a97_a101 : a97 ≠ a101 := ne_new g101 A_a97.lt
        have ge_a101 : n0 ≤ a101 := ge_of g101 Zn
        have Zn := Nat.le_trans Zn E101.1
        have A_a93 := A_a93.ext E101
        have A_a97 := A_a97.ext E101
        have A_a101 : Ary Z h101 a101 .double 3 (fun _ => (.double 0)) := A_a101
        refine g_dup C S at_161 (pc' := 162) rfl rfl ?_
        refine g_iconst C S (0 : Int32) at_162 (pc' := 163) rfl rfl ?_
        refine g_dload C S at_163 (pc' := 165) rfl rfl ?_
        refine g_dastore C S (i := 0) at_165 A_a101 (by decide) (by decide) ge_a101 (pc' := 166) rfl (fun T102 h102 S W102 B102 => ?_)
        have Zn := Nat.le_trans Zn (Nat.le_of_eq W102.size.symm)
        have A_a93 := A_a93.other W102 ne_a93_a101
        have A_a97 := A_a97.other W102 ne_a97_a101
        have A_a101 := B102
        refine g_dup C S at_166 (pc' := 167) rfl rfl ?_
        refine g_iconst C S (1 : Int32) at_167 (pc' := 168) rfl rfl ?_
        refine g_dload C S at_168 (pc' := 170) rfl rfl ?_
        refine g_dastore C S (i := 1) at_170 A_a101 (by decide) (by decide) ge_a101 (pc' := 171) rfl (fun T103 h103 S W103 B103 => ?_)
        have Zn := Nat.le_trans Zn (Nat.le_of_eq W103.size.symm)
        have A_a93 := A_a93.other W103 ne_a93_a101
        have A_a97 := A_a97.other W103 ne_a97_a101
        have A_a101 := B103
        refine g_dup C S at_171 (pc' := 172) rfl rfl ?_
        refine g_iconst C S (2 : Int32) at_172 (pc' := 173) rfl rfl ?_
        refine g_dload C S at_173 (pc' := 175) rfl rfl ?_
        refine g_dastore C S (i := 2) at_175 A_a101 (by decide) (by decide) ge_a101 (pc' := 176) rfl (fun T104 h104 S W104 B104 => ?_)
        have Zn := Nat.le_trans Zn (Nat.le_of_eq W104.size.symm)
        have A_a93 := A_a93.other W104 ne_a93_a101
        have A_a97 := A_a97.other W104 ne_a97_a101
        have A_a101 := B104
        refine g_astore C S at_176 (pc' := 178) rfl rfl (L' := #[.val (.long q1), .second, .val (.long q2), .second, .val (.long q3), .second, .val (.long q4), .second, .val (.long q5), .second, .val (.long q6), .second, .val (.long qa), .second, .val (.long qb), .second, .val (.long qc), .second, .val (.long ca), .second, .val (.long cb), .second, .val (.long cc), .second, .val (.double FP.dconst0), .second, .val (.double FP.dconst0), .second, .val (.double FP.dconst0), .second, .val (.ref a93), .val (.ref a97), .val (.ref a101), .unset, .unset, .unset, .unset, .unset, .unset, .unset, .unset, .unset, .unset, .unset, .unset, .unset, .unset, .unset, .unset, .unset, .unset]) rfl ?_
        refine g_aload C S at_178 (pc' := 180) rfl rfl rfl ?_
        refine g_aload C S at_180 (pc' := 182) rfl rfl rfl ?_
        refine g_aload C S at_182 (pc' := 184) rfl rfl rfl ?_
        refine g_callS C S (rm := ({ frames := 1, cells := 2, slots := 6, locals := 20 } : Room)) (W := 0) at_184 (hw _ (List.mem_of_getElem? (i := 5) rfl)) (hw _ (List.mem_of_getElem? (i := 6) rfl)) (hw _ (List.mem_of_getElem? (i := 7) rfl)) (hw _ (List.mem_of_getElem? (i := 8) rfl)) (by decide) (c_wt000 l Z a0 hw a93 a97 a101 h104 n0 ca cb cc FP.dconst0 FP.dconst0 FP.dconst0 _ _ own_mag0 own_mag0 own_mag0 rfl rfl rfl rfl rfl rfl qa qb qc _ rfl rfl rfl hc53 hc74 hc98 Zn A_a93 A_a97 A_a101) (argsL := [(.ref a93), (.ref a97), (.ref a101)]) (r := []) rfl (lenOf pd_1 rfl) rfl (Nat.le_of_eq rfl) (by decide) (by decide) (by decide) (by decide) (pc' := 187) rfl (fun T105 h105 v105 q105 S => ?_)
        obtain ⟨b105, fw, rfl, ge_b105, sz_b105, A_b105, hw0, hw1, hw2⟩ := q105
        show Gl p e below s _ n0 _ T105 (mkF m 187 #[.val (.long q1), .second, .val (.long q2), .second, .val (.long q3), .second, .val (.long q4), .second, .val (.long q5), .second, .val (.long q6), .second, .val (.long qa), .second, .val (.long qb), .second, .val (.long qc), .second, .val (.long ca), .second, .val (.long cb), .second, .val (.long cc), .second, .val (.double FP.dconst0), .second, .val (.double FP.dconst0), .second, .val (.double FP.dconst0), .second, .val (.ref a93), .val (.ref a97), .val (.ref a101), .unset, .unset, .unset, .unset, .unset, .unset, .unset, .unset, .unset, .unset, .unset, .unset, .unset, .unset, .unset, .unset, .unset, .unset] [(.ref b105)])
        refine g_astore C S at_187 (pc' := 189) rfl rfl (L' := #[.val (.long q1), .second, .val (.long q2), .second, .val (.long q3), .second, .val (.long q4), .second, .val (.long q5), .second, .val (.long q6), .second, .val (.long qa), .second, .val (.long qb), .second, .val (.long qc), .second, .val (.long ca), .second, .val (.long cb), .second, .val (.long cc), .second, .val (.double FP.dconst0), .second, .val (.double FP.dconst0), .second, .val (.double FP.dconst0), .second, .val (.ref a93), .val (.ref a97), .val (.ref a101), .val (.ref b105), .unset, .unset, .unset, .unset, .unset, .unset, .unset, .unset, .unset, .unset, .unset, .unset, .unset, .unset, .unset, .unset, .unset]) rfl ?_
        refine g_aload C S at_189 (pc' := 191) rfl rfl rfl ?_
        refine g_arraylength C S (x := (3 : Int32)) at_191 A_b105 (by decide) (pc' := 192) rfl ?_
        refine g_iconst C S (3 : Int32) at_192 (pc' := 193) rfl rfl ?_
        refine g_icmp_eq C S at_193 (pc' := 198) (pf := 196) (by decide) (by decide) rfl (fun hc193 => ?_) (fun hc193 => absurd rfl hc193)
        refine g_iconst C S (0 : Int32) at_198 (pc' := 199) rfl rfl ?_
        refine g_istore C S at_199 (pc' := 201) rfl (L' := #[.val (.long q1), .second, .val (.long q2), .second, .val (.long q3), .second, .val (.long q4), .second, .val (.long q5), .second, .val (.long q6), .second, .val (.long qa), .second, .val (.long qb), .second, .val (.long qc), .second, .val (.long ca), .second, .val (.long cb), .second, .val (.long cc), .second, .val (.double FP.dconst0), .second, .val (.double FP.dconst0), .second, .val (.double FP.dconst0), .second, .val (.ref a93), .val (.ref a97), .val (.ref a101), .val (.ref b105), .val (.int (0 : Int32)), .unset, .unset, .unset, .unset, .unset, .unset, .unset, .unset, .unset, .unset, .unset, .unset, .unset, .unset, .unset, .unset]) rfl ?_
        refine g_dconst0 C S at_201 (pc' := 202) rfl ?_
        refine g_dstore C S at_202 (pc' := 204) rfl (L' := #[.val (.long q1), .second, .val (.long q2), .second, .val (.long q3), .second, .val (.long q4), .second, .val (.long q5), .second, .val (.long q6), .second, .val (.long qa), .second, .val (.long qb), .second, .val (.long qc), .second, .val (.long ca), .second, .val (.long cb), .second, .val (.long cc), .second, .val (.double FP.dconst0), .second, .val (.double FP.dconst0), .second, .val (.double FP.dconst0), .second, .val (.ref a93), .val (.ref a97), .val (.ref a101), .val (.ref b105), .val (.int (0 : Int32)), .val (.double FP.dconst0), .second, .unset, .unset, .unset, .unset, .unset, .unset, .unset, .unset, .unset, .unset, .unset, .unset, .unset, .unset]) rfl ?_
        refine g_dconst0 C S at_204 (pc' := 205) rfl ?_
        refine g_dstore C S at_205 (pc' := 207) rfl (L' := #[.val (.long q1), .second, .val (.long q2), .second, .val (.long q3), .second, .val (.long q4), .second, .val (.long q5), .second, .val (.long q6), .second, .val (.long qa), .second, .val (.long qb), .second, .val (.long qc), .second, .val (.long ca), .second, .val (.long cb), .second, .val (.long cc), .second, .val (.double FP.dconst0), .second, .val (.double FP.dconst0), .second, .val (.double FP.dconst0), .second, .val (.ref a93), .val (.ref a97), .val (.ref a101), .val (.ref b105), .val (.int (0 : Int32)), .val (.double FP.dconst0), .second, .val (.double FP.dconst0), .second, .unset, .unset, .unset, .unset, .unset, .unset, .unset, .unset, .unset, .unset, .unset, .unset]) rfl ?_
        refine g_dconst0 C S at_207 (pc' := 208) rfl ?_
        refine g_dstore C S at_208 (pc' := 210) rfl (L' := #[.val (.long q1), .second, .val (.long q2), .second, .val (.long q3), .second, .val (.long q4), .second, .val (.long q5), .second, .val (.long q6), .second, .val (.long qa), .second, .val (.long qb), .second, .val (.long qc), .second, .val (.long ca), .second, .val (.long cb), .second, .val (.long cc), .second, .val (.double FP.dconst0), .second, .val (.double FP.dconst0), .second, .val (.double FP.dconst0), .second, .val (.ref a93), .val (.ref a97), .val (.ref a101), .val (.ref b105), .val (.int (0 : Int32)), .val (.double FP.dconst0), .second, .val (.double FP.dconst0), .second, .val (.double FP.dconst0), .second, .unset, .unset, .unset, .unset, .unset, .unset, .unset, .unset, .unset, .unset]) rfl ?_
        refine g_dconst0 C S at_210 (pc' := 211) rfl ?_
        refine g_dstore C S at_211 (pc' := 213) rfl (L' := #[.val (.long q1), .second, .val (.long q2), .second, .val (.long q3), .second, .val (.long q4), .second, .val (.long q5), .second, .val (.long q6), .second, .val (.long qa), .second, .val (.long qb), .second, .val (.long qc), .second, .val (.long ca), .second, .val (.long cb), .second, .val (.long cc), .second, .val (.double FP.dconst0), .second, .val (.double FP.dconst0), .second, .val (.double FP.dconst0), .second, .val (.ref a93), .val (.ref a97), .val (.ref a101), .val (.ref b105), .val (.int (0 : Int32)), .val (.double FP.dconst0), .second, .val (.double FP.dconst0), .second, .val (.double FP.dconst0), .second, .val (.double FP.dconst0), .second, .unset, .unset, .unset, .unset, .unset, .unset, .unset, .unset]) rfl ?_
        refine g_lload C S at_213 (pc' := 215) rfl rfl ?_
        refine g_lconst C S (0 : Int64) at_215 (pc' := 216) rfl rfl ?_
        refine g_lcmp C S at_216 (pc' := 217) rfl ?_
        refine g_lif_le C S at_217 (pc' := 241) (pf := 220) (by decide) (by decide) rfl (fun hc217 => ?_) (fun hc217 => absurd hc217 hc53)
        refine g_lload C S at_241 (pc' := 243) rfl rfl ?_
        refine g_lconst C S (0 : Int64) at_243 (pc' := 244) rfl rfl ?_
        refine g_lcmp C S at_244 (pc' := 245) rfl ?_
        refine g_lif_le C S at_245 (pc' := 269) (pf := 248) (by decide) (by decide) rfl (fun hc245 => ?_) (fun hc245 => absurd hc245 hc74)
        refine g_lload C S at_269 (pc' := 271) rfl rfl ?_
        refine g_lconst C S (0 : Int64) at_271 (pc' := 272) rfl rfl ?_
        refine g_lcmp C S at_272 (pc' := 273) rfl ?_
        refine g_lif_le C S at_273 (pc' := 297) (pf := 276) (by decide) (by decide) rfl (fun hc273 => ?_) (fun hc273 => absurd hc273 hc98)
        refine g_iload C S at_297 (pc' := 299) rfl rfl ?_
        refine g_if_ne C S at_299 (pc' := 306) (pf := 302) (by decide) (by decide) rfl (fun hc299 => absurd rfl hc299) (fun hc299 => ?_)
        refine g_dconst1 C S at_302 (pc' := 303) rfl ?_
        refine g_goto C S at_303 (pc' := 312) (by decide) (by decide) ?_
        refine g_dstore C S at_312 (pc' := 314) rfl (L' := #[.val (.long q1), .second, .val (.long q2), .second, .val (.long q3), .second, .val (.long q4), .second, .val (.long q5), .second, .val (.long q6), .second, .val (.long qa), .second, .val (.long qb), .second, .val (.long qc), .second, .val (.long ca), .second, .val (.long cb), .second, .val (.long cc), .second, .val (.double FP.dconst0), .second, .val (.double FP.dconst0), .second, .val (.double FP.dconst0), .second, .val (.ref a93), .val (.ref a97), .val (.ref a101), .val (.ref b105), .val (.int (0 : Int32)), .val (.double FP.dconst0), .second, .val (.double FP.dconst0), .second, .val (.double FP.dconst0), .second, .val (.double FP.dconst0), .second, .val (.double FP.dconst1), .second, .unset, .unset, .unset, .unset, .unset, .unset]) rfl ?_
        refine g_lload C S at_314 (pc' := 316) rfl rfl ?_
        refine g_lconst C S (0 : Int64) at_316 (pc' := 317) rfl rfl ?_
        refine g_lcmp C S at_317 (pc' := 318) rfl ?_
        refine g_lif_le C S at_318 (pc' := 326) (pf := 321) (by decide) (by decide) rfl (fun hc318 => ?_) (fun hc318 => absurd hc318 hc53)
        refine g_dload C S at_326 (pc' := 328) rfl rfl ?_
        refine g_dstore C S at_328 (pc' := 330) rfl (L' := #[.val (.long q1), .second, .val (.long q2), .second, .val (.long q3), .second, .val (.long q4), .second, .val (.long q5), .second, .val (.long q6), .second, .val (.long qa), .second, .val (.long qb), .second, .val (.long qc), .second, .val (.long ca), .second, .val (.long cb), .second, .val (.long cc), .second, .val (.double FP.dconst0), .second, .val (.double FP.dconst0), .second, .val (.double FP.dconst0), .second, .val (.ref a93), .val (.ref a97), .val (.ref a101), .val (.ref b105), .val (.int (0 : Int32)), .val (.double FP.dconst0), .second, .val (.double FP.dconst0), .second, .val (.double FP.dconst0), .second, .val (.double FP.dconst0), .second, .val (.double FP.dconst1), .second, .val (.double FP.dconst1), .second, .unset, .unset, .unset, .unset]) rfl ?_
        refine g_lload C S at_330 (pc' := 332) rfl rfl ?_
        refine g_lconst C S (0 : Int64) at_332 (pc' := 333) rfl rfl ?_
        refine g_lcmp C S at_333 (pc' := 334) rfl ?_
        refine g_lif_le C S at_334 (pc' := 342) (pf := 337) (by decide) (by decide) rfl (fun hc334 => ?_) (fun hc334 => absurd hc334 hc74)
        refine g_dload C S at_342 (pc' := 344) rfl rfl ?_
        refine g_dstore C S at_344 (pc' := 346) rfl (L' := #[.val (.long q1), .second, .val (.long q2), .second, .val (.long q3), .second, .val (.long q4), .second, .val (.long q5), .second, .val (.long q6), .second, .val (.long qa), .second, .val (.long qb), .second, .val (.long qc), .second, .val (.long ca), .second, .val (.long cb), .second, .val (.long cc), .second, .val (.double FP.dconst0), .second, .val (.double FP.dconst0), .second, .val (.double FP.dconst0), .second, .val (.ref a93), .val (.ref a97), .val (.ref a101), .val (.ref b105), .val (.int (0 : Int32)), .val (.double FP.dconst0), .second, .val (.double FP.dconst0), .second, .val (.double FP.dconst0), .second, .val (.double FP.dconst0), .second, .val (.double FP.dconst1), .second, .val (.double FP.dconst1), .second, .val (.double FP.dconst1), .second, .unset, .unset]) rfl ?_
        refine g_lload C S at_346 (pc' := 348) rfl rfl ?_
        refine g_lconst C S (0 : Int64) at_348 (pc' := 349) rfl rfl ?_
        refine g_lcmp C S at_349 (pc' := 350) rfl ?_
        refine g_lif_le C S at_350 (pc' := 358) (pf := 353) (by decide) (by decide) rfl (fun hc350 => ?_) (fun hc350 => absurd hc350 hc98)
        refine g_dload C S at_358 (pc' := 360) rfl rfl ?_
        refine g_dstore C S at_360 (pc' := 362) rfl (L' := #[.val (.long q1), .second, .val (.long q2), .second, .val (.long q3), .second, .val (.long q4), .second, .val (.long q5), .second, .val (.long q6), .second, .val (.long qa), .second, .val (.long qb), .second, .val (.long qc), .second, .val (.long ca), .second, .val (.long cb), .second, .val (.long cc), .second, .val (.double FP.dconst0), .second, .val (.double FP.dconst0), .second, .val (.double FP.dconst0), .second, .val (.ref a93), .val (.ref a97), .val (.ref a101), .val (.ref b105), .val (.int (0 : Int32)), .val (.double FP.dconst0), .second, .val (.double FP.dconst0), .second, .val (.double FP.dconst0), .second, .val (.double FP.dconst0), .second, .val (.double FP.dconst1), .second, .val (.double FP.dconst1), .second, .val (.double FP.dconst1), .second, .val (.double FP.dconst1), .second]) rfl ?_
        refine g_aload C S at_362 (pc' := 364) rfl rfl rfl ?_
        refine g_iconst C S (0 : Int32) at_364 (pc' := 365) rfl rfl ?_
        refine g_daload C S (i := 0) (v := (.double (FP.dmul (FP.l2d qa) FP.dconst1))) at_365 A_b105 (by decide) (by decide) hw0 (pc' := 366) rfl ?_
        refine g_lload C S at_366 (pc' := 368) rfl rfl ?_
        refine g_l2d C S at_368 (pc' := 369) rfl ?_
        refine g_dload C S at_369 (pc' := 371) rfl rfl ?_
        refine g_dmul C S at_371 (pc' := 372) rfl (nn_of (Jvm.Free.Fl.dmul_mag (Ka := 1088) (Kb := 1056) (Jvm.Free.Fl.l2d_mag _) own_mag1 (by decide) (by decide)) (by decide)) ?_
        refine g_dcmp C S at_372 (v := 0) (pc' := 373) rfl (dcmpV_self (nn_of (Jvm.Free.Fl.dmul_mag (Ka := 1088) (Kb := 1056) (Jvm.Free.Fl.l2d_mag _) own_mag1 (by decide) (by decide)) (by decide)) _) ?_
        refine g_if_ne C S at_373 (pc' := 408) (pf := 376) (by decide) (by decide) rfl (fun hc373 => absurd rfl hc373) (fun hc373 => ?_)
        refine g_aload C S at_376 (pc' := 378) rfl rfl rfl ?_
        refine g_iconst C S (1 : Int32) at_378 (pc' := 379) rfl rfl ?_
        refine g_daload C S (i := 1) (v := (.double (FP.dmul (FP.l2d qb) FP.dconst1))) at_379 A_b105 (by decide) (by decide) hw1 (pc' := 380) rfl ?_
        refine g_lload C S at_380 (pc' := 382) rfl rfl ?_
        refine g_l2d C S at_382 (pc' := 383) rfl ?_
        refine g_dload C S at_383 (pc' := 385) rfl rfl ?_
        refine g_dmul C S at_385 (pc' := 386) rfl (nn_of (Jvm.Free.Fl.dmul_mag (Ka := 1088) (Kb := 1056) (Jvm.Free.Fl.l2d_mag _) own_mag1 (by decide) (by decide)) (by decide)) ?_
        refine g_dcmp C S at_386 (v := 0) (pc' := 387) rfl (dcmpV_self (nn_of (Jvm.Free.Fl.dmul_mag (Ka := 1088) (Kb := 1056) (Jvm.Free.Fl.l2d_mag _) own_mag1 (by decide) (by decide)) (by decide)) _) ?_
        refine g_if_ne C S at_387 (pc' := 408) (pf := 390) (by decide) (by decide) rfl (fun hc387 => absurd rfl hc387) (fun hc387 => ?_)
        refine g_aload C S at_390 (pc' := 392) rfl rfl rfl ?_
        refine g_iconst C S (2 : Int32) at_392 (pc' := 393) rfl rfl ?_
        refine g_daload C S (i := 2) (v := (.double (FP.dmul (FP.l2d qc) FP.dconst1))) at_393 A_b105 (by decide) (by decide) hw2 (pc' := 394) rfl ?_
        refine g_lload C S at_394 (pc' := 396) rfl rfl ?_
        refine g_l2d C S at_396 (pc' := 397) rfl ?_
        refine g_dload C S at_397 (pc' := 399) rfl rfl ?_
        refine g_dmul C S at_399 (pc' := 400) rfl (nn_of (Jvm.Free.Fl.dmul_mag (Ka := 1088) (Kb := 1056) (Jvm.Free.Fl.l2d_mag _) own_mag1 (by decide) (by decide)) (by decide)) ?_
        refine g_dcmp C S at_400 (v := 0) (pc' := 401) rfl (dcmpV_self (nn_of (Jvm.Free.Fl.dmul_mag (Ka := 1088) (Kb := 1056) (Jvm.Free.Fl.l2d_mag _) own_mag1 (by decide) (by decide)) (by decide)) _) ?_
        refine g_if_ne C S at_401 (pc' := 408) (pf := 404) (by decide) (by decide) rfl (fun hc401 => absurd rfl hc401) (fun hc401 => ?_)
        refine g_iconst C S (1 : Int32) at_404 (pc' := 405) rfl rfl ?_
        refine g_goto C S at_405 (pc' := 409) (by decide) (by decide) ?_
        exact g_retZ C S at_409 (by decide) (by decide) (by decide) (rfl)
      · refine g_lload C S at_101 (pc' := 103) rfl rfl ?_
        refine g_bipush C S (32 : Int32) at_103 (pc' := 105) rfl rfl ?_
        refine g_lushr C S at_105 (pc' := 106) rfl ?_
        refine g_ldc2 C S at_106 (hw _ (List.mem_of_getElem? (i := 2) rfl)) (pc' := 109) rfl ?_
        refine g_land C S at_109 (pc' := 110) rfl ?_
        refine g_l2i C S at_110 (pc' := 111) rfl ?_
        obtain ⟨xc, e_xc⟩ : ∃ z, z = ((((q6.toUInt64 >>> ((32 : Int32) &&& 0x3f).toInt64.toUInt64).toInt64) &&& (65535 : Int64)).toInt32) := ⟨_, rfl⟩
        rw [← e_xc]
        refine g_i2d C S at_111 (pc' := 112) rfl ?_
        refine g_goto C S at_112 (pc' := 116) (by decide) (by decide) ?_
        refine g_dstore C S at_116 (pc' := 118) rfl (L' := #[.val (.long q1), .second, .val (.long q2), .second, .val (.long q3), .second, .val (.long q4), .second, .val (.long q5), .second, .val (.long q6), .second, .val (.long qa), .second, .val (.long qb), .second, .val (.long qc), .second, .val (.long ca), .second, .val (.long cb), .second, .val (.long cc), .second, .val (.double FP.dconst0), .second, .val (.double FP.dconst0), .second, .val (.double (FP.i2d xc)), .second, .unset, .unset, .unset, .unset, .unset, .unset, .unset, .unset, .unset, .unset, .unset, .unset, .unset, .unset, .unset, .unset, .unset, .unset, .unset, .unset, .unset]) rfl ?_
        refine g_iconst C S (3 : Int32) at_118 (pc' := 119) rfl rfl ?_
        refine g_newarray C S (N := 3) (cap := 3) at_119 (hw _ (List.mem_of_getElem? (i := 3) rfl)) (by decide) (by decide) (by decide) (by decide) (by decide) (pc' := 121) rfl (fun T106 h106 a106 S g106 E106 A_a106 => ?_)
        have ge_a106 : n0 ≤ a106 := ge_of g106 Zn
        have Zn := Nat.le_trans Zn E106.1
        have A_a106 : Ary Z h106 a106 .long 3 (fun _ => (.long (0 : Int64))) := A_a106
        refine g_dup C S at_121 (pc' := 122) rfl rfl ?_
        refine g_iconst C S (0 : Int32) at_122 (pc' := 123) rfl rfl ?_
        refine g_lload C S at_123 (pc' := 125) rfl rfl ?_
        refine g_lastore C S (i := 0) at_125 A_a106 (by decide) (by decide) ge_a106 (pc' := 126) rfl (fun T107 h107 S W107 B107 => ?_)
        have Zn := Nat.le_trans Zn (Nat.le_of_eq W107.size.symm)
        have A_a106 := B107
        refine g_dup C S at_126 (pc' := 127) rfl rfl ?_
        refine g_iconst C S (1 : Int32) at_127 (pc' := 128) rfl rfl ?_
        refine g_lload C S at_128 (pc' := 130) rfl rfl ?_
        refine g_lastore C S (i := 1) at_130 A_a106 (by decide) (by decide) ge_a106 (pc' := 131) rfl (fun T108 h108 S W108 B108 => ?_)
        have Zn := Nat.le_trans Zn (Nat.le_of_eq W108.size.symm)
        have A_a106 := B108
        refine g_dup C S at_131 (pc' := 132) rfl rfl ?_
        refine g_iconst C S (2 : Int32) at_132 (pc' := 133) rfl rfl ?_
        refine g_lload C S at_133 (pc' := 135) rfl rfl ?_
        refine g_lastore C S (i := 2) at_135 A_a106 (by decide) (by decide) ge_a106 (pc' := 136) rfl (fun T109 h109 S W109 B109 => ?_)
        have Zn := Nat.le_trans Zn (Nat.le_of_eq W109.size.symm)
        have A_a106 := B109
        refine g_astore C S at_136 (pc' := 138) rfl rfl (L' := #[.val (.long q1), .second, .val (.long q2), .second, .val (.long q3), .second, .val (.long q4), .second, .val (.long q5), .second, .val (.long q6), .second, .val (.long qa), .second, .val (.long qb), .second, .val (.long qc), .second, .val (.long ca), .second, .val (.long cb), .second, .val (.long cc), .second, .val (.double FP.dconst0), .second, .val (.double FP.dconst0), .second, .val (.double (FP.i2d xc)), .second, .val (.ref a106), .unset, .unset, .unset, .unset, .unset, .unset, .unset, .unset, .unset, .unset, .unset, .unset, .unset, .unset, .unset, .unset, .unset, .unset, .unset, .unset]) rfl ?_
        refine g_iconst C S (3 : Int32) at_138 (pc' := 139) rfl rfl ?_
        refine g_newarray C S (N := 3) (cap := 3) at_139 (hw _ (List.mem_of_getElem? (i := 3) rfl)) (by decide) (by decide) (by decide) (by decide) (by decide) (pc' := 141) rfl (fun T110 h110 a110 S g110 E110 A_a110 => ?_)
        have ne_a106_a110 : a106 ≠ a110 := ne_new g110 A_a106.lt
        have ge_a110 : n0 ≤ a110 := ge_of g110 Zn
        have Zn := Nat.le_trans Zn E110.1
        have A_a106 := A_a106.ext E110
        have A_a110 : Ary Z h110 a110 .long 3 (fun _ => (.long (0 : Int64))) := A_a110
        refine g_dup C S at_141 (pc' := 142) rfl rfl ?_
        refine g_iconst C S (0 : Int32) at_142 (pc' := 143) rfl rfl ?_
        refine g_lload C S at_143 (pc' := 145) rfl rfl ?_
        refine g_lastore C S (i := 0) at_145 A_a110 (by decide) (by decide) ge_a110 (pc' := 146) rfl (fun T111 h111 S W111 B111 => ?_)
        have Zn := Nat.le_trans Zn (Nat.le_of_eq W111.size.symm)
        have A_a106 := A_a106.other W111 ne_a106_a110
        have A_a110 := B111
        refine g_dup C S at_146 (pc' := 147) rfl rfl ?_
        refine g_iconst C S (1 : Int32) at_147 (pc' := 148) rfl rfl ?_
        refine g_lload C S at_148 (pc' := 150) rfl rfl ?_
        refine g_lastore C S (i := 1) at_150 A_a110 (by decide) (by decide) ge_a110 (pc' := 151) rfl (fun T112 h112 S W112 B112 => ?_)
        have Zn := Nat.le_trans Zn (Nat.le_of_eq W112.size.symm)
        have A_a106 := A_a106.other W112 ne_a106_a110
        have A_a110 := B112
        refine g_dup C S at_151 (pc' := 152) rfl rfl ?_
        refine g_iconst C S (2 : Int32) at_152 (pc' := 153) rfl rfl ?_
        refine g_lload C S at_153 (pc' := 155) rfl rfl ?_
        refine g_lastore C S (i := 2) at_155 A_a110 (by decide) (by decide) ge_a110 (pc' := 156) rfl (fun T113 h113 S W113 B113 => ?_)
        have Zn := Nat.le_trans Zn (Nat.le_of_eq W113.size.symm)
        have A_a106 := A_a106.other W113 ne_a106_a110
        have A_a110 := B113
        refine g_astore C S at_156 (pc' := 158) rfl rfl (L' := #[.val (.long q1), .second, .val (.long q2), .second, .val (.long q3), .second, .val (.long q4), .second, .val (.long q5), .second, .val (.long q6), .second, .val (.long qa), .second, .val (.long qb), .second, .val (.long qc), .second, .val (.long ca), .second, .val (.long cb), .second, .val (.long cc), .second, .val (.double FP.dconst0), .second, .val (.double FP.dconst0), .second, .val (.double (FP.i2d xc)), .second, .val (.ref a106), .val (.ref a110), .unset, .unset, .unset, .unset, .unset, .unset, .unset, .unset, .unset, .unset, .unset, .unset, .unset, .unset, .unset, .unset, .unset, .unset, .unset]) rfl ?_
        refine g_iconst C S (3 : Int32) at_158 (pc' := 159) rfl rfl ?_
        refine g_newarray C S (N := 3) (cap := 3) at_159 (hw _ (List.mem_of_getElem? (i := 4) rfl)) (by decide) (by decide) (by decide) (by decide) (by decide) (pc' := 161) rfl (fun T114 h114 a114 S g114 E114 A_a114 => ?_)
        have ne_a106_a114 : a106 ≠ a114 := ne_new g114 A_a106.lt
        have ne_a110_a114 : a110 ≠ a114 := ne_new g114 A_a110.lt
        have ge_a114 : n0 ≤ a114 := ge_of g114 Zn
        have Zn := Nat.le_trans Zn E114.1
        have A_a106 := A_a106.ext E114
        have A_a110 := A_a110.ext E114
        have A_a114 : Ary Z h114 a114 .double 3 (fun _ => (.double 0)) := A_a114
        refine g_dup C S at_161 (pc' := 162) rfl rfl ?_
        refine g_iconst C S (0 : Int32) at_162 (pc' := 163) rfl rfl ?_
        refine g_dload C S at_163 (pc' := 165) rfl rfl ?_
        refine g_dastore C S (i := 0) at_165 A_a114 (by decide) (by decide) ge_a114 (pc' := 166) rfl (fun T115 h115 S W115 B115 => ?_)
        have Zn := Nat.le_trans Zn (Nat.le_of_eq W115.size.symm)
        have A_a106 := A_a106.other W115 ne_a106_a114
        have A_a110 := A_a110.other W115 ne_a110_a114
        have A_a114 := B115
        refine g_dup C S at_166 (pc' := 167) rfl rfl ?_
        refine g_iconst C S (1 : Int32) at_167 (pc' := 168) rfl rfl ?_
        refine g_dload C S at_168 (pc' := 170) rfl rfl ?_
        refine g_dastore C S (i := 1) at_170 A_a114 (by decide) (by decide) ge_a114 (pc' := 171) rfl (fun T116 h116 S W116 B116 => ?_)
        have Zn := Nat.le_trans Zn (Nat.le_of_eq W116.size.symm)
        have A_a106 := A_a106.other W116 ne_a106_a114
        have A_a110 := A_a110.other W116 ne_a110_a114
        have A_a114 := B116
        refine g_dup C S at_171 (pc' := 172) rfl rfl ?_
        refine g_iconst C S (2 : Int32) at_172 (pc' := 173) rfl rfl ?_
        refine g_dload C S at_173 (pc' := 175) rfl rfl ?_
        refine g_dastore C S (i := 2) at_175 A_a114 (by decide) (by decide) ge_a114 (pc' := 176) rfl (fun T117 h117 S W117 B117 => ?_)
        have Zn := Nat.le_trans Zn (Nat.le_of_eq W117.size.symm)
        have A_a106 := A_a106.other W117 ne_a106_a114
        have A_a110 := A_a110.other W117 ne_a110_a114
        have A_a114 := B117
        refine g_astore C S at_176 (pc' := 178) rfl rfl (L' := #[.val (.long q1), .second, .val (.long q2), .second, .val (.long q3), .second, .val (.long q4), .second, .val (.long q5), .second, .val (.long q6), .second, .val (.long qa), .second, .val (.long qb), .second, .val (.long qc), .second, .val (.long ca), .second, .val (.long cb), .second, .val (.long cc), .second, .val (.double FP.dconst0), .second, .val (.double FP.dconst0), .second, .val (.double (FP.i2d xc)), .second, .val (.ref a106), .val (.ref a110), .val (.ref a114), .unset, .unset, .unset, .unset, .unset, .unset, .unset, .unset, .unset, .unset, .unset, .unset, .unset, .unset, .unset, .unset, .unset, .unset]) rfl ?_
        refine g_aload C S at_178 (pc' := 180) rfl rfl rfl ?_
        refine g_aload C S at_180 (pc' := 182) rfl rfl rfl ?_
        refine g_aload C S at_182 (pc' := 184) rfl rfl rfl ?_
        refine g_callS C S (rm := ({ frames := 1, cells := 2, slots := 6, locals := 20 } : Room)) (W := 0) at_184 (hw _ (List.mem_of_getElem? (i := 5) rfl)) (hw _ (List.mem_of_getElem? (i := 6) rfl)) (hw _ (List.mem_of_getElem? (i := 7) rfl)) (hw _ (List.mem_of_getElem? (i := 8) rfl)) (by decide) (c_wt001 l Z a0 hw a106 a110 a114 h117 n0 ca cb cc FP.dconst0 FP.dconst0 (FP.i2d xc) _ _ own_mag0 own_mag0 (Jvm.Free.Fl.i2d_mag _) rfl rfl rfl rfl rfl rfl qa qb qc _ rfl rfl rfl hc53 hc74 hc98 Zn A_a106 A_a110 A_a114) (argsL := [(.ref a106), (.ref a110), (.ref a114)]) (r := []) rfl (lenOf pd_1 rfl) rfl (Nat.le_of_eq rfl) (by decide) (by decide) (by decide) (by decide) (pc' := 187) rfl (fun T118 h118 v118 q118 S => ?_)
        obtain ⟨b118, fw, rfl, ge_b118, sz_b118, A_b118, hw0, hw1, hw2⟩ := q118
        show Gl p e below s _ n0 _ T118 (mkF m 187 #[.val (.long q1), .second, .val (.long q2), .second, .val (.long q3), .second, .val (.long q4), .second, .val (.long q5), .second, .val (.long q6), .second, .val (.long qa), .second, .val (.long qb), .second, .val (.long qc), .second, .val (.long ca), .second, .val (.long cb), .second, .val (.long cc), .second, .val (.double FP.dconst0), .second, .val (.double FP.dconst0), .second, .val (.double (FP.i2d xc)), .second, .val (.ref a106), .val (.ref a110), .val (.ref a114), .unset, .unset, .unset, .unset, .unset, .unset, .unset, .unset, .unset, .unset, .unset, .unset, .unset, .unset, .unset, .unset, .unset, .unset] [(.ref b118)])
        refine g_astore C S at_187 (pc' := 189) rfl rfl (L' := #[.val (.long q1), .second, .val (.long q2), .second, .val (.long q3), .second, .val (.long q4), .second, .val (.long q5), .second, .val (.long q6), .second, .val (.long qa), .second, .val (.long qb), .second, .val (.long qc), .second, .val (.long ca), .second, .val (.long cb), .second, .val (.long cc), .second, .val (.double FP.dconst0), .second, .val (.double FP.dconst0), .second, .val (.double (FP.i2d xc)), .second, .val (.ref a106), .val (.ref a110), .val (.ref a114), .val (.ref b118), .unset, .unset, .unset, .unset, .unset, .unset, .unset, .unset, .unset, .unset, .unset, .unset, .unset, .unset, .unset, .unset, .unset]) rfl ?_
        refine g_aload C S at_189 (pc' := 191) rfl rfl rfl ?_
        refine g_arraylength C S (x := (3 : Int32)) at_191 A_b118 (by decide) (pc' := 192) rfl ?_
        refine g_iconst C S (3 : Int32) at_192 (pc' := 193) rfl rfl ?_
        refine g_icmp_eq C S at_193 (pc' := 198) (pf := 196) (by decide) (by decide) rfl (fun hc193 => ?_) (fun hc193 => absurd rfl hc193)
        refine g_iconst C S (0 : Int32) at_198 (pc' := 199) rfl rfl ?_
        refine g_istore C S at_199 (pc' := 201) rfl (L' := #[.val (.long q1), .second, .val (.long q2), .second, .val (.long q3), .second, .val (.long q4), .second, .val (.long q5), .second, .val (.long q6), .second, .val (.long qa), .second, .val (.long qb), .second, .val (.long qc), .second, .val (.long ca), .second, .val (.long cb), .second, .val (.long cc), .second, .val (.double FP.dconst0), .second, .val (.double FP.dconst0), .second, .val (.double (FP.i2d xc)), .second, .val (.ref a106), .val (.ref a110), .val (.ref a114), .val (.ref b118), .val (.int (0 : Int32)), .unset, .unset, .unset, .unset, .unset, .unset, .unset, .unset, .unset, .unset, .unset, .unset, .unset, .unset, .unset, .unset]) rfl ?_
        refine g_dconst0 C S at_201 (pc' := 202) rfl ?_
        refine g_dstore C S at_202 (pc' := 204) rfl (L' := #[.val (.long q1), .second, .val (.long q2), .second, .val (.long q3), .second, .val (.long q4), .second, .val (.long q5), .second, .val (.long q6), .second, .val (.long qa), .second, .val (.long qb), .second, .val (.long qc), .second, .val (.long ca), .second, .val (.long cb), .second, .val (.long cc), .second, .val (.double FP.dconst0), .second, .val (.double FP.dconst0), .second, .val (.double (FP.i2d xc)), .second, .val (.ref a106), .val (.ref a110), .val (.ref a114), .val (.ref b118), .val (.int (0 : Int32)), .val (.double FP.dconst0), .second, .unset, .unset, .unset, .unset, .unset, .unset, .unset, .unset, .unset, .unset, .unset, .unset, .unset, .unset]) rfl ?_
        refine g_dconst0 C S at_204 (pc' := 205) rfl ?_
        refine g_dstore C S at_205 (pc' := 207) rfl (L' := #[.val (.long q1), .second, .val (.long q2), .second, .val (.long q3), .second, .val (.long q4), .second, .val (.long q5), .second, .val (.long q6), .second, .val (.long qa), .second, .val (.long qb), .second, .val (.long qc), .second, .val (.long ca), .second, .val (.long cb), .second, .val (.long cc), .second, .val (.double FP.dconst0), .second, .val (.double FP.dconst0), .second, .val (.double (FP.i2d xc)), .second, .val (.ref a106), .val (.ref a110), .val (.ref a114), .val (.ref b118), .val (.int (0 : Int32)), .val (.double FP.dconst0), .second, .val (.double FP.dconst0), .second, .unset, .unset, .unset, .unset, .unset, .unset, .unset, .unset, .unset, .unset, .unset, .unset]) rfl ?_
        refine g_dconst0 C S at_207 (pc' := 208) rfl ?_
        refine g_dstore C S at_208 (pc' := 210) rfl (L' := #[.val (.long q1), .second, .val (.long q2), .second, .val (.long q3), .second, .val (.long q4), .second, .val (.long q5), .second, .val (.long q6), .second, .val (.long qa), .second, .val (.long qb), .second, .val (.long qc), .second, .val (.long ca), .second, .val (.long cb), .second, .val (.long cc), .second, .val (.double FP.dconst0), .second, .val (.double FP.dconst0), .second, .val (.double (FP.i2d xc)), .second, .val (.ref a106), .val (.ref a110), .val (.ref a114), .val (.ref b118), .val (.int (0 : Int32)), .val (.double FP.dconst0), .second, .val (.double FP.dconst0), .second, .val (.double FP.dconst0), .second, .unset, .unset, .unset, .unset, .unset, .unset, .unset, .unset, .unset, .unset]) rfl ?_
        refine g_dconst0 C S at_210 (pc' := 211) rfl ?_
        refine g_dstore C S at_211 (pc' := 213) rfl (L' := #[.val (.long q1), .second, .val (.long q2), .second, .val (.long q3), .second, .val (.long q4), .second, .val (.long q5), .second, .val (.long q6), .second, .val (.long qa), .second, .val (.long qb), .second, .val (.long qc), .second, .val (.long ca), .second, .val (.long cb), .second, .val (.long cc), .second, .val (.double FP.dconst0), .second, .val (.double FP.dconst0), .second, .val (.double (FP.i2d xc)), .second, .val (.ref a106), .val (.ref a110), .val (.ref a114), .val (.ref b118), .val (.int (0 : Int32)), .val (.double FP.dconst0), .second, .val (.double FP.dconst0), .second, .val (.double FP.dconst0), .second, .val (.double FP.dconst0), .second, .unset, .unset, .unset, .unset, .unset, .unset, .unset, .unset]) rfl ?_
        refine g_lload C S at_213 (pc' := 215) rfl rfl ?_
        refine g_lconst C S (0 : Int64) at_215 (pc' := 216) rfl rfl ?_
        refine g_lcmp C S at_216 (pc' := 217) rfl ?_
        refine g_lif_le C S at_217 (pc' := 241) (pf := 220) (by decide) (by decide) rfl (fun hc217 => ?_) (fun hc217 => absurd hc217 hc53)
        refine g_lload C S at_241 (pc' := 243) rfl rfl ?_
        refine g_lconst C S (0 : Int64) at_243 (pc' := 244) rfl rfl ?_
        refine g_lcmp C S at_244 (pc' := 245) rfl ?_
        refine g_lif_le C S at_245 (pc' := 269) (pf := 248) (by decide) (by decide) rfl (fun hc245 => ?_) (fun hc245 => absurd hc245 hc74)
        refine g_lload C S at_269 (pc' := 271) rfl rfl ?_
        refine g_lconst C S (0 : Int64) at_271 (pc' := 272) rfl rfl ?_
        refine g_lcmp C S at_272 (pc' := 273) rfl ?_
        refine g_lif_le C S at_273 (pc' := 297) (pf := 276) (by decide) (by decide) rfl (fun hc273 => absurd hc98 hc273) (fun hc273 => ?_)
        refine g_dload C S at_276 (pc' := 278) rfl rfl ?_
        refine g_lload C S at_278 (pc' := 280) rfl rfl ?_
        refine g_l2d C S at_280 (pc' := 281) rfl ?_
        refine g_ddiv C S at_281 (pc' := 282) rfl (nn_of (ddiv_mag (K := 1056) (L := 1023) (Jvm.Free.Fl.i2d_mag _) (l2d_big (own_nz hc98)) (by decide) (by decide)) (by decide)) ?_
        refine g_dstore C S at_282 (pc' := 284) rfl (L' := #[.val (.long q1), .second, .val (.long q2), .second, .val (.long q3), .second, .val (.long q4), .second, .val (.long q5), .second, .val (.long q6), .second, .val (.long qa), .second, .val (.long qb), .second, .val (.long qc), .second, .val (.long ca), .second, .val (.long cb), .second, .val (.long cc), .second, .val (.double FP.dconst0), .second, .val (.double FP.dconst0), .second, .val (.double (FP.i2d xc)), .second, .val (.ref a106), .val (.ref a110), .val (.ref a114), .val (.ref b118), .val (.int (0 : Int32)), .val (.double FP.dconst0), .second, .val (.double FP.dconst0), .second, .val (.double FP.dconst0), .second, .val (.double (FP.ddiv (FP.i2d xc) (FP.l2d cc))), .second, .unset, .unset, .unset, .unset, .unset, .unset, .unset, .unset]) rfl ?_
        refine g_dload C S at_284 (pc' := 286) rfl rfl ?_
        refine g_dload C S at_286 (pc' := 288) rfl rfl ?_
        refine g_dadd C S at_288 (pc' := 289) rfl (nn_of (Jvm.Free.Fl.dadd_mag (K := 1057) (Jvm.Free.Fl.Mag64.mono own_mag0 (by decide)) (Jvm.Free.Fl.Mag64.mono (ddiv_mag (K := 1056) (L := 1023) (Jvm.Free.Fl.i2d_mag _) (l2d_big (own_nz hc98)) (by decide) (by decide)) (by decide)) (by decide)) (by decide)) ?_
        refine g_dstore C S at_289 (pc' := 291) rfl (L' := #[.val (.long q1), .second, .val (.long q2), .second, .val (.long q3), .second, .val (.long q4), .second, .val (.long q5), .second, .val (.long q6), .second, .val (.long qa), .second, .val (.long qb), .second, .val (.long qc), .second, .val (.long ca), .second, .val (.long cb), .second, .val (.long cc), .second, .val (.double FP.dconst0), .second, .val (.double FP.dconst0), .second, .val (.double (FP.i2d xc)), .second, .val (.ref a106), .val (.ref a110), .val (.ref a114), .val (.ref b118), .val (.int (0 : Int32)), .val (.double (FP.dadd FP.dconst0 (FP.ddiv (FP.i2d xc) (FP.l2d cc)))), .second, .val (.double FP.dconst0), .second, .val (.double FP.dconst0), .second, .val (.double (FP.ddiv (FP.i2d xc) (FP.l2d cc))), .second, .unset, .unset, .unset, .unset, .unset, .unset, .unset, .unset]) rfl ?_
        refine g_iload C S at_291 (pc' := 293) rfl rfl ?_
        refine g_iconst C S (1 : Int32) at_293 (pc' := 294) rfl rfl ?_
        refine g_iadd C S at_294 (pc' := 295) rfl ?_
        refine g_istore C S at_295 (pc' := 297) rfl (L' := #[.val (.long q1), .second, .val (.long q2), .second, .val (.long q3), .second, .val (.long q4), .second, .val (.long q5), .second, .val (.long q6), .second, .val (.long qa), .second, .val (.long qb), .second, .val (.long qc), .second, .val (.long ca), .second, .val (.long cb), .second, .val (.long cc), .second, .val (.double FP.dconst0), .second, .val (.double FP.dconst0), .second, .val (.double (FP.i2d xc)), .second, .val (.ref a106), .val (.ref a110), .val (.ref a114), .val (.ref b118), .val (.int ((0 : Int32) + (1 : Int32))), .val (.double (FP.dadd FP.dconst0 (FP.ddiv (FP.i2d xc) (FP.l2d cc)))), .second, .val (.double FP.dconst0), .second, .val (.double FP.dconst0), .second, .val (.double (FP.ddiv (FP.i2d xc) (FP.l2d cc))), .second, .unset, .unset, .unset, .unset, .unset, .unset, .unset, .unset]) rfl ?_
        refine g_iload C S at_297 (pc' := 299) rfl rfl ?_
        refine g_if_ne C S at_299 (pc' := 306) (pf := 302) (by decide) (by decide) rfl (fun hc299 => ?_) (fun hc299 => absurd hc299 (by decide))
        refine g_dload C S at_306 (pc' := 308) rfl rfl ?_
        refine g_iload C S at_308 (pc' := 310) rfl rfl ?_
        refine g_i2d C S at_310 (pc' := 311) rfl ?_
        refine g_ddiv C S at_311 (pc' := 312) rfl (nn_of (ddiv_mag (K := 1059) (L := 1023) (Jvm.Free.Fl.dadd_mag (K := 1057) (Jvm.Free.Fl.Mag64.mono own_mag0 (by decide)) (Jvm.Free.Fl.Mag64.mono (ddiv_mag (K := 1056) (L := 1023) (Jvm.Free.Fl.i2d_mag _) (l2d_big (own_nz hc98)) (by decide) (by decide)) (by decide)) (by decide)) (own_i2d (by decide)) (by decide) (by decide)) (by decide)) ?_
        refine g_dstore C S at_312 (pc' := 314) rfl (L' := #[.val (.long q1), .second, .val (.long q2), .second, .val (.long q3), .second, .val (.long q4), .second, .val (.long q5), .second, .val (.long q6), .second, .val (.long qa), .second, .val (.long qb), .second, .val (.long qc), .second, .val (.long ca), .second, .val (.long cb), .second, .val (.long cc), .second, .val (.double FP.dconst0), .second, .val (.double FP.dconst0), .second, .val (.double (FP.i2d xc)), .second, .val (.ref a106), .val (.ref a110), .val (.ref a114), .val (.ref b118), .val (.int ((0 : Int32) + (1 : Int32))), .val (.double (FP.dadd FP.dconst0 (FP.ddiv (FP.i2d xc) (FP.l2d cc)))), .second, .val (.double FP.dconst0), .second, .val (.double FP.dconst0), .second, .val (.double (FP.ddiv (FP.i2d xc) (FP.l2d cc))), .second, .val (.double (FP.ddiv (FP.dadd FP.dconst0 (FP.ddiv (FP.i2d xc) (FP.l2d cc))) (FP.i2d ((0 : Int32) + (1 : Int32))))), .second, .unset, .unset, .unset, .unset, .unset, .unset]) rfl ?_
        refine g_lload C S at_314 (pc' := 316) rfl rfl ?_
        refine g_lconst C S (0 : Int64) at_316 (pc' := 317) rfl rfl ?_
        refine g_lcmp C S at_317 (pc' := 318) rfl ?_
        refine g_lif_le C S at_318 (pc' := 326) (pf := 321) (by decide) (by decide) rfl (fun hc318 => ?_) (fun hc318 => absurd hc318 hc53)
        refine g_dload C S at_326 (pc' := 328) rfl rfl ?_
        refine g_dstore C S at_328 (pc' := 330) rfl (L' := #[.val (.long q1), .second, .val (.long q2), .second, .val (.long q3), .second, .val (.long q4), .second, .val (.long q5), .second, .val (.long q6), .second, .val (.long qa), .second, .val (.long qb), .second, .val (.long qc), .second, .val (.long ca), .second, .val (.long cb), .second, .val (.long cc), .second, .val (.double FP.dconst0), .second, .val (.double FP.dconst0), .second, .val (.double (FP.i2d xc)), .second, .val (.ref a106), .val (.ref a110), .val (.ref a114), .val (.ref b118), .val (.int ((0 : Int32) + (1 : Int32))), .val (.double (FP.dadd FP.dconst0 (FP.ddiv (FP.i2d xc) (FP.l2d cc)))), .second, .val (.double FP.dconst0), .second, .val (.double FP.dconst0), .second, .val (.double (FP.ddiv (FP.i2d xc) (FP.l2d cc))), .second, .val (.double (FP.ddiv (FP.dadd FP.dconst0 (FP.ddiv (FP.i2d xc) (FP.l2d cc))) (FP.i2d ((0 : Int32) + (1 : Int32))))), .second, .val (.double (FP.ddiv (FP.dadd FP.dconst0 (FP.ddiv (FP.i2d xc) (FP.l2d cc))) (FP.i2d ((0 : Int32) + (1 : Int32))))), .second, .unset, .unset, .unset, .unset]) rfl ?_
        refine g_lload C S at_330 (pc' := 332) rfl rfl ?_
        refine g_lconst C S (0 : Int64) at_332 (pc' := 333) rfl rfl ?_
        refine g_lcmp C S at_333 (pc' := 334) rfl ?_
        refine g_lif_le C S at_334 (pc' := 342) (pf := 337) (by decide) (by decide) rfl (fun hc334 => ?_) (fun hc334 => absurd hc334 hc74)
        refine g_dload C S at_342 (pc' := 344) rfl rfl ?_
        refine g_dstore C S at_344 (pc' := 346) rfl (L' := #[.val (.long q1), .second, .val (.long q2), .second, .val (.long q3), .second, .val (.long q4), .second, .val (.long q5), .second, .val (.long q6), .second, .val (.long qa), .second, .val (.long qb), .second, .val (.long qc), .second, .val (.long ca), .second, .val (.long cb), .second, .val (.long cc), .second, .val (.double FP.dconst0), .second, .val (.double FP.dconst0), .second, .val (.double (FP.i2d xc)), .second, .val (.ref a106), .val (.ref a110), .val (.ref a114), .val (.ref b118), .val (.int ((0 : Int32) + (1 : Int32))), .val (.double (FP.dadd FP.dconst0 (FP.ddiv (FP.i2d xc) (FP.l2d cc)))), .second, .val (.double FP.dconst0), .second, .val (.double FP.dconst0), .second, .val (.double (FP.ddiv (FP.i2d xc) (FP.l2d cc))), .second, .val (.double (FP.ddiv (FP.dadd FP.dconst0 (FP.ddiv (FP.i2d xc) (FP.l2d cc))) (FP.i2d ((0 : Int32) + (1 : Int32))))), .second, .val (.double (FP.ddiv (FP.dadd FP.dconst0 (FP.ddiv (FP.i2d xc) (FP.l2d cc))) (FP.i2d ((0 : Int32) + (1 : Int32))))), .second, .val (.double (FP.ddiv (FP.dadd FP.dconst0 (FP.ddiv (FP.i2d xc) (FP.l2d cc))) (FP.i2d ((0 : Int32) + (1 : Int32))))), .second, .unset, .unset]) rfl ?_
        refine g_lload C S at_346 (pc' := 348) rfl rfl ?_
        refine g_lconst C S (0 : Int64) at_348 (pc' := 349) rfl rfl ?_
        refine g_lcmp C S at_349 (pc' := 350) rfl ?_
        refine g_lif_le C S at_350 (pc' := 358) (pf := 353) (by decide) (by decide) rfl (fun hc350 => absurd hc98 hc350) (fun hc350 => ?_)
        refine g_dload C S at_353 (pc' := 355) rfl rfl ?_
        refine g_goto C S at_355 (pc' := 360) (by decide) (by decide) ?_
        refine g_dstore C S at_360 (pc' := 362) rfl (L' := #[.val (.long q1), .second, .val (.long q2), .second, .val (.long q3), .second, .val (.long q4), .second, .val (.long q5), .second, .val (.long q6), .second, .val (.long qa), .second, .val (.long qb), .second, .val (.long qc), .second, .val (.long ca), .second, .val (.long cb), .second, .val (.long cc), .second, .val (.double FP.dconst0), .second, .val (.double FP.dconst0), .second, .val (.double (FP.i2d xc)), .second, .val (.ref a106), .val (.ref a110), .val (.ref a114), .val (.ref b118), .val (.int ((0 : Int32) + (1 : Int32))), .val (.double (FP.dadd FP.dconst0 (FP.ddiv (FP.i2d xc) (FP.l2d cc)))), .second, .val (.double FP.dconst0), .second, .val (.double FP.dconst0), .second, .val (.double (FP.ddiv (FP.i2d xc) (FP.l2d cc))), .second, .val (.double (FP.ddiv (FP.dadd FP.dconst0 (FP.ddiv (FP.i2d xc) (FP.l2d cc))) (FP.i2d ((0 : Int32) + (1 : Int32))))), .second, .val (.double (FP.ddiv (FP.dadd FP.dconst0 (FP.ddiv (FP.i2d xc) (FP.l2d cc))) (FP.i2d ((0 : Int32) + (1 : Int32))))), .second, .val (.double (FP.ddiv (FP.dadd FP.dconst0 (FP.ddiv (FP.i2d xc) (FP.l2d cc))) (FP.i2d ((0 : Int32) + (1 : Int32))))), .second, .val (.double (FP.ddiv (FP.i2d xc) (FP.l2d cc))), .second]) rfl ?_
        refine g_aload C S at_362 (pc' := 364) rfl rfl rfl ?_
        refine g_iconst C S (0 : Int32) at_364 (pc' := 365) rfl rfl ?_
        refine g_daload C S (i := 0) (v := (.double (FP.dmul (FP.l2d qa) (FP.ddiv (FP.dadd FP.dconst0 (FP.ddiv (FP.i2d xc) (FP.l2d cc))) (FP.i2d ((0 : Int32) + (1 : Int32))))))) at_365 A_b118 (by decide) (by decide) hw0 (pc' := 366) rfl ?_
        refine g_lload C S at_366 (pc' := 368) rfl rfl ?_
        refine g_l2d C S at_368 (pc' := 369) rfl ?_
        refine g_dload C S at_369 (pc' := 371) rfl rfl ?_
        refine g_dmul C S at_371 (pc' := 372) rfl (nn_of (Jvm.Free.Fl.dmul_mag (Ka := 1088) (Kb := 1060) (Jvm.Free.Fl.l2d_mag _) (ddiv_mag (K := 1059) (L := 1023) (Jvm.Free.Fl.dadd_mag (K := 1057) (Jvm.Free.Fl.Mag64.mono own_mag0 (by decide)) (Jvm.Free.Fl.Mag64.mono (ddiv_mag (K := 1056) (L := 1023) (Jvm.Free.Fl.i2d_mag _) (l2d_big (own_nz hc98)) (by decide) (by decide)) (by decide)) (by decide)) (own_i2d (by decide)) (by decide) (by decide)) (by decide) (by decide)) (by decide)) ?_
        refine g_dcmp C S at_372 (v := 0) (pc' := 373) rfl (dcmpV_self (nn_of (Jvm.Free.Fl.dmul_mag (Ka := 1088) (Kb := 1060) (Jvm.Free.Fl.l2d_mag _) (ddiv_mag (K := 1059) (L := 1023) (Jvm.Free.Fl.dadd_mag (K := 1057) (Jvm.Free.Fl.Mag64.mono own_mag0 (by decide)) (Jvm.Free.Fl.Mag64.mono (ddiv_mag (K := 1056) (L := 1023) (Jvm.Free.Fl.i2d_mag _) (l2d_big (own_nz hc98)) (by decide) (by decide)) (by decide)) (by decide)) (own_i2d (by decide)) (by decide) (by decide)) (by decide) (by decide)) (by decide)) _) ?_
        refine g_if_ne C S at_373 (pc' := 408) (pf := 376) (by decide) (by decide) rfl (fun hc373 => absurd rfl hc373) (fun hc373 => ?_)
        refine g_aload C S at_376 (pc' := 378) rfl rfl rfl ?_
        refine g_iconst C S (1 : Int32) at_378 (pc' := 379) rfl rfl ?_
        refine g_daload C S (i := 1) (v := (.double (FP.dmul (FP.l2d qb) (FP.ddiv (FP.dadd FP.dconst0 (FP.ddiv (FP.i2d xc) (FP.l2d cc))) (FP.i2d ((0 : Int32) + (1 : Int32))))))) at_379 A_b118 (by decide) (by decide) hw1 (pc' := 380) rfl ?_
        refine g_lload C S at_380 (pc' := 382) rfl rfl ?_
        refine g_l2d C S at_382 (pc' := 383) rfl ?_
        refine g_dload C S at_383 (pc' := 385) rfl rfl ?_
        refine g_dmul C S at_385 (pc' := 386) rfl (nn_of (Jvm.Free.Fl.dmul_mag (Ka := 1088) (Kb := 1060) (Jvm.Free.Fl.l2d_mag _) (ddiv_mag (K := 1059) (L := 1023) (Jvm.Free.Fl.dadd_mag (K := 1057) (Jvm.Free.Fl.Mag64.mono own_mag0 (by decide)) (Jvm.Free.Fl.Mag64.mono (ddiv_mag (K := 1056) (L := 1023) (Jvm.Free.Fl.i2d_mag _) (l2d_big (own_nz hc98)) (by decide) (by decide)) (by decide)) (by decide)) (own_i2d (by decide)) (by decide) (by decide)) (by decide) (by decide)) (by decide)) ?_
        refine g_dcmp C S at_386 (v := 0) (pc' := 387) rfl (dcmpV_self (nn_of (Jvm.Free.Fl.dmul_mag (Ka := 1088) (Kb := 1060) (Jvm.Free.Fl.l2d_mag _) (ddiv_mag (K := 1059) (L := 1023) (Jvm.Free.Fl.dadd_mag (K := 1057) (Jvm.Free.Fl.Mag64.mono own_mag0 (by decide)) (Jvm.Free.Fl.Mag64.mono (ddiv_mag (K := 1056) (L := 1023) (Jvm.Free.Fl.i2d_mag _) (l2d_big (own_nz hc98)) (by decide) (by decide)) (by decide)) (by decide)) (own_i2d (by decide)) (by decide) (by decide)) (by decide) (by decide)) (by decide)) _) ?_
        refine g_if_ne C S at_387 (pc' := 408) (pf := 390) (by decide) (by decide) rfl (fun hc387 => absurd rfl hc387) (fun hc387 => ?_)
        refine g_aload C S at_390 (pc' := 392) rfl rfl rfl ?_
        refine g_iconst C S (2 : Int32) at_392 (pc' := 393) rfl rfl ?_
        refine g_daload C S (i := 2) (v := (.double (FP.dmul (FP.l2d qc) (FP.ddiv (FP.i2d xc) (FP.l2d cc))))) at_393 A_b118 (by decide) (by decide) hw2 (pc' := 394) rfl ?_
        refine g_lload C S at_394 (pc' := 396) rfl rfl ?_
        refine g_l2d C S at_396 (pc' := 397) rfl ?_
        refine g_dload C S at_397 (pc' := 399) rfl rfl ?_
        refine g_dmul C S at_399 (pc' := 400) rfl (nn_of (Jvm.Free.Fl.dmul_mag (Ka := 1088) (Kb := 1057) (Jvm.Free.Fl.l2d_mag _) (ddiv_mag (K := 1056) (L := 1023) (Jvm.Free.Fl.i2d_mag _) (l2d_big (own_nz hc98)) (by decide) (by decide)) (by decide) (by decide)) (by decide)) ?_
        refine g_dcmp C S at_400 (v := 0) (pc' := 401) rfl (dcmpV_self (nn_of (Jvm.Free.Fl.dmul_mag (Ka := 1088) (Kb := 1057) (Jvm.Free.Fl.l2d_mag _) (ddiv_mag (K := 1056) (L := 1023) (Jvm.Free.Fl.i2d_mag _) (l2d_big (own_nz hc98)) (by decide) (by decide)) (by decide) (by decide)) (by decide)) _) ?_
        refine g_if_ne C S at_401 (pc' := 408) (pf := 404) (by decide) (by decide) rfl (fun hc401 => absurd rfl hc401) (fun hc401 => ?_)
        refine g_iconst C S (1 : Int32) at_404 (pc' := 405) rfl rfl ?_
        refine g_goto C S at_405 (pc' := 409) (by decide) (by decide) ?_
        exact g_retZ C S at_409 (by decide) (by decide) (by decide) (rfl)
    · refine g_lload C S at_77 (pc' := 79) rfl rfl ?_
      refine g_bipush C S (16 : Int32) at_79 (pc' := 81) rfl rfl ?_
      refine g_lushr C S at_81 (pc' := 82) rfl ?_
      refine g_ldc2 C S at_82 (hw _ (List.mem_of_getElem? (i := 2) rfl)) (pc' := 85) rfl ?_
      refine g_land C S at_85 (pc' := 86) rfl ?_
      refine g_l2i C S at_86 (pc' := 87) rfl ?_
      obtain ⟨xb, e_xb⟩ : ∃ z, z = ((((q6.toUInt64 >>> ((16 : Int32) &&& 0x3f).toInt64.toUInt64).toInt64) &&& (65535 : Int64)).toInt32) := ⟨_, rfl⟩
      rw [← e_xb]
      refine g_i2d C S at_87 (pc' := 88) rfl ?_
      refine g_goto C S at_88 (pc' := 92) (by decide) (by decide) ?_
      refine g_dstore C S at_92 (pc' := 94) rfl (L' := #[.val (.long q1), .second, .val (.long q2), .second, .val (.long q3), .second, .val (.long q4), .second, .val (.long q5), .second, .val (.long q6), .second, .val (.long qa), .second, .val (.long qb), .second, .val (.long qc), .second, .val (.long ca), .second, .val (.long cb), .second, .val (.long cc), .second, .val (.double FP.dconst0), .second, .val (.double (FP.i2d xb)), .second, .unset, .unset, .unset, .unset, .unset, .unset, .unset, .unset, .unset, .unset, .unset, .unset, .unset, .unset, .unset, .unset, .unset, .unset, .unset, .unset, .unset, .unset, .unset]) rfl ?_
      refine g_lload C S at_94 (pc' := 96) rfl rfl ?_
      refine g_lconst C S (0 : Int64) at_96 (pc' := 97) rfl rfl ?_
      refine g_lcmp C S at_97 (pc' := 98) rfl ?_
      refine g_lif_le C S at_98 (pc' := 115) (pf := 101) (by decide) (by decide) rfl (fun hc98 => ?_) (fun hc98 => ?_)
      · refine g_dconst0 C S at_115 (pc' := 116) rfl ?_
        refine g_dstore C S at_116 (pc' := 118) rfl (L' := #[.val (.long q1), .second, .val (.long q2), .second, .val (.long q3), .second, .val (.long q4), .second, .val (.long q5), .second, .val (.long q6), .second, .val (.long qa), .second, .val (.long qb), .second, .val (.long qc), .second, .val (.long ca), .second, .val (.long cb), .second, .val (.long cc), .second, .val (.double FP.dconst0), .second, .val (.double (FP.i2d xb)), .second, .val (.double FP.dconst0), .second, .unset, .unset, .unset, .unset, .unset, .unset, .unset, .unset, .unset, .unset, .unset, .unset, .unset, .unset, .unset, .unset, .unset, .unset, .unset, .unset, .unset]) rfl ?_
        refine g_iconst C S (3 : Int32) at_118 (pc' := 119) rfl rfl ?_
        refine g_newarray C S (N := 3) (cap := 3) at_119 (hw _ (List.mem_of_getElem? (i := 3) rfl)) (by decide) (by decide) (by decide) (by decide) (by decide) (pc' := 121) rfl (fun T119 h119 a119 S g119 E119 A_a119 => ?_)
        have ge_a119 : n0 ≤ a119 := ge_of g119 Zn
        have Zn := Nat.le_trans Zn E119.1
        have A_a119 : Ary Z h119 a119 .long 3 (fun _ => (.long (0 : Int64))) := A_a119
        refine g_dup C S at_121 (pc' := 122) rfl rfl ?_
        refine g_iconst C S (0 : Int32) at_122 (pc' := 123) rfl rfl ?_
        refine g_lload C S at_123 (pc' := 125) rfl rfl ?_
        refine g_lastore C S (i := 0) at_125 A_a119 (by decide) (by decide) ge_a119 (pc' := 126) rfl (fun T120 h120 S W120 B120 => ?_)
        have Zn := Nat.le_trans Zn (Nat.le_of_eq W120.size.symm)
        have A_a119 := B120
        refine g_dup C S at_126 (pc' := 127) rfl rfl ?_
        refine g_iconst C S (1 : Int32) at_127 (pc' := 128) rfl rfl ?_
        refine g_lload C S at_128 (pc' := 130) rfl rfl ?_
        refine g_lastore C S (i := 1) at_130 A_a119 (by decide) (by decide) ge_a119 (pc' := 131) rfl (fun T121 h121 S W121 B121 => ?_)
        have Zn := Nat.le_trans Zn (Nat.le_of_eq W121.size.symm)
        have A_a119 := B121
        refine g_dup C S at_131 (pc' := 132) rfl rfl ?_
        refine g_iconst C S (2 : Int32) at_132 (pc' := 133) rfl rfl ?_
        refine g_lload C S at_133 (pc' := 135) rfl rfl ?_
        refine g_lastore C S (i := 2) at_135 A_a119 (by decide) (by decide) ge_a119 (pc' := 136) rfl (fun T122 h122 S W122 B122 => ?_)
        have Zn := Nat.le_trans Zn (Nat.le_of_eq W122.size.symm)
        have A_a119 := B122
        refine g_astore C S at_136 (pc' := 138) rfl rfl (L' := #[.val (.long q1), .second, .val (.long q2), .second, .val (.long q3), .second, .val (.long q4), .second, .val (.long q5), .second, .val (.long q6), .second, .val (.long qa), .second, .val (.long qb), .second, .val (.long qc), .second, .val (.long ca), .second, .val (.long cb), .second, .val (.long cc), .second, .val (.double FP.dconst0), .second, .val (.double (FP.i2d xb)), .second, .val (.double FP.dconst0), .second, .val (.ref a119), .unset, .unset, .unset, .unset, .unset, .unset, .unset, .unset, .unset, .unset, .unset, .unset, .unset, .unset, .unset, .unset, .unset, .unset, .unset, .unset]) rfl ?_
        refine g_iconst C S (3 : Int32) at_138 (pc' := 139) rfl rfl ?_
        refine g_newarray C S (N := 3) (cap := 3) at_139 (hw _ (List.mem_of_getElem? (i := 3) rfl)) (by decide) (by decide) (by decide) (by decide) (by decide) (pc' := 141) rfl (fun T123 h123 a123 S g123 E123 A_a123 => ?_)
        have ne_a119_a123 : a119 ≠ a123 := ne_new g123 A_a119.lt
        have ge_a123 : n0 ≤ a123 := ge_of g123 Zn
        have Zn := Nat.le_trans Zn E123.1
        have A_a119 := A_a119.ext E123
        have A_a123 : Ary Z h123 a123 .long 3 (fun _ => (.long (0 : Int64))) := A_a123
        refine g_dup C S at_141 (pc' := 142) rfl rfl ?_
        refine g_iconst C S (0 : Int32) at_142 (pc' := 143) rfl rfl ?_
        refine g_lload C S at_143 (pc' := 145) rfl rfl ?_
        refine g_lastore C S (i := 0) at_145 A_a123 (by decide) (by decide) ge_a123 (pc' := 146) rfl (fun T124 h124 S W124 B124 => ?_)
        have Zn := Nat.le_trans Zn (Nat.le_of_eq W124.size.symm)
        have A_a119 := A_a119.other W124 ne_a119_a123
        have A_a123 := B124
        refine g_dup C S at_146 (pc' := 147) rfl rfl ?_
        refine g_iconst C S (1 : Int32) at_147 (pc' := 148) rfl rfl ?_
        refine g_lload C S at_148 (pc' := 150) rfl rfl ?_
        refine g_lastore C S (i := 1) at_150 A_a123 (by decide) (by decide) ge_a123 (pc' := 151) rfl (fun T125 h125 S W125 B125 => ?_)
        have Zn := Nat.le_trans Zn (Nat.le_of_eq W125.size.symm)
        have A_a119 := A_a119.other W125 ne_a119_a123
        have A_a123 := B125
        refine g_dup C S at_151 (pc' := 152) rfl rfl ?_
        refine g_iconst C S (2 : Int32) at_152 (pc' := 153) rfl rfl ?_
        refine g_lload C S at_153 (pc' := 155) rfl rfl ?_
        refine g_lastore C S (i := 2) at_155 A_a123 (by decide) (by decide) ge_a123 (pc' := 156) rfl (fun T126 h126 S W126 B126 => ?_)
        have Zn := Nat.le_trans Zn (Nat.le_of_eq W126.size.symm)
        have A_a119 := A_a119.other W126 ne_a119_a123
        have A_a123 := B126
        refine g_astore C S at_156 (pc' := 158) rfl rfl (L' := #[.val (.long q1), .second, .val (.long q2), .second, .val (.long q3), .second, .val (.long q4), .second, .val (.long q5), .second, .val (.long q6), .second, .val (.long qa), .second, .val (.long qb), .second, .val (.long qc), .second, .val (.long ca), .second, .val (.long cb), .second, .val (.long cc), .second, .val (.double FP.dconst0), .second, .val (.double (FP.i2d xb)), .second, .val (.double FP.dconst0), .second, .val (.ref a119), .val (.ref a123), .unset, .unset, .unset, .unset, .unset, .unset, .unset, .unset, .unset, .unset, .unset, .unset, .unset, .unset, .unset, .unset, .unset, .unset, .unset]) rfl ?_
        refine g_iconst C S (3 : Int32) at_158 (pc' := 159) rfl rfl ?_
        refine g_newarray C S (N := 3) (cap := 3) at_159 (hw _ (List.mem_of_getElem? (i := 4) rfl)) (by decide) (by decide) (by decide) (by decide) (by decide) (pc' := 161) rfl (fun T127 h127 a127 S g127 E127 A_a127 => ?_)
        have ne_a119_a127 : a119 ≠ a127 := ne_new g127 A_a119.lt
        have ne_a123_a127 : a123 ≠ a127 := ne_new g127 A_a123.lt
        have ge_a127 : n0 ≤ a127 := ge_of g127 Zn
        have Zn := Nat.le_trans Zn E127.1
        have A_a119 := A_a119.ext E127
        have A_a123 := A_a123.ext E127
        have A_a127 : Ary Z h127 a127 .double 3 (fun _ => (.double 0)) := A_a127
        refine g_dup C S at_161 (pc' := 162) rfl rfl ?_
        refine g_iconst C S (0 : Int32) at_162 (pc' := 163) rfl rfl ?_
        refine g_dload C S at_163 (pc' := 165) rfl rfl ?_
        refine g_dastore C S (i := 0) at_165 A_a127 (by decide) (by decide) ge_a127 (pc' := 166) rfl (fun T128 h128 S W128 B128 => ?_)
        have Zn := Nat.le_trans Zn (Nat.le_of_eq W128.size.symm)
        have A_a119 := A_a119.other W128 ne_a119_a127
        have A_a123 := A_a123.other W128 ne_a123_a127
        have A_a127 := B128
        refine g_dup C S at_166 (pc' := 167) rfl rfl ?_
        refine g_iconst C S (1 : Int32) at_167 (pc' := 168) rfl rfl ?_
        refine g_dload C S at_168 (pc' := 170) rfl rfl ?_
        refine g_dastore C S (i := 1) at_170 A_a127 (by decide) (by decide) ge_a127 (pc' := 171) rfl (fun T129 h129 S W129 B129 => ?_)
        have Zn := Nat.le_trans Zn (Nat.le_of_eq W129.size.symm)
        have A_a119 := A_a119.other W129 ne_a119_a127
        have A_a123 := A_a123.other W129 ne_a123_a127
        have A_a127 := B129
        refine g_dup C S at_171 (pc' := 172) rfl rfl ?_
        refine g_iconst C S (2 : Int32) at_172 (pc' := 173) rfl rfl ?_
        refine g_dload C S at_173 (pc' := 175) rfl rfl ?_
        refine g_dastore C S (i := 2) at_175 A_a127 (by decide) (by decide) ge_a127 (pc' := 176) rfl (fun T130 h130 S W130 B130 => ?_)
        have Zn := Nat.le_trans Zn (Nat.le_of_eq W130.size.symm)
        have A_a119 := A_a119.other W130 ne_a119_a127
        have A_a123 := A_a123.other W130 ne_a123_a127
        have A_a127 := B130
        refine g_astore C S at_176 (pc' := 178) rfl rfl (L' := #[.val (.long q1), .second, .val (.long q2), .second, .val (.long q3), .second, .val (.long q4), .second, .val (.long q5), .second, .val (.long q6), .second, .val (.long qa), .second, .val (.long qb), .second, .val (.long qc), .second, .val (.long ca), .second, .val (.long cb), .second, .val (.long cc), .second, .val (.double FP.dconst0), .second, .val (.double (FP.i2d xb)), .second, .val (.double FP.dconst0), .second, .val (.ref a119), .val (.ref a123), .val (.ref a127), .unset, .unset, .unset, .unset, .unset, .unset, .unset, .unset, .unset, .unset, .unset, .unset, .unset, .unset, .unset, .unset, .unset, .unset]) rfl ?_
        refine g_aload C S at_178 (pc' := 180) rfl rfl rfl ?_
        refine g_aload C S at_180 (pc' := 182) rfl rfl rfl ?_
        refine g_aload C S at_182 (pc' := 184) rfl rfl rfl ?_
        refine g_callS C S (rm := ({ frames := 1, cells := 2, slots := 6, locals := 20 } : Room)) (W := 0) at_184 (hw _ (List.mem_of_getElem? (i := 5) rfl)) (hw _ (List.mem_of_getElem? (i := 6) rfl)) (hw _ (List.mem_of_getElem? (i := 7) rfl)) (hw _ (List.mem_of_getElem? (i := 8) rfl)) (by decide) (c_wt010 l Z a0 hw a119 a123 a127 h130 n0 ca cb cc FP.dconst0 (FP.i2d xb) FP.dconst0 _ _ own_mag0 (Jvm.Free.Fl.i2d_mag _) own_mag0 rfl rfl rfl rfl rfl rfl qa qb qc _ rfl rfl rfl hc53 hc74 hc98 Zn A_a119 A_a123 A_a127) (argsL := [(.ref a119), (.ref a123), (.ref a127)]) (r := []) rfl (lenOf pd_1 rfl) rfl (Nat.le_of_eq rfl) (by decide) (by decide) (by decide) (by decide) (pc' := 187) rfl (fun T131 h131 v131 q131 S => ?_)
        obtain ⟨b131, fw, rfl, ge_b131, sz_b131, A_b131, hw0, hw1, hw2⟩ := q131
        show Gl p e below s _ n0 _ T131 (mkF m 187 #[.val (.long q1), .second, .val (.long q2), .second, .val (.long q3), .second, .val (.long q4), .second, .val (.long q5), .second, .val (.long q6), .second, .val (.long qa), .second, .val (.long qb), .second, .val (.long qc), .second, .val (.long ca), .second, .val (.long cb), .second, .val (.long cc), .second, .val (.double FP.dconst0), .second, .val (.double (FP.i2d xb)), .second, .val (.double FP.dconst0), .second, .val (.ref a119), .val (.ref a123), .val (.ref a127), .unset, .unset, .unset, .unset, .unset, .unset, .unset, .unset, .unset, .unset, .unset, .unset, .unset, .unset, .unset, .unset, .unset, .unset] [(.ref b131)])
        refine g_astore C S at_187 (pc' := 189) rfl rfl (L' := #[.val (.long q1), .second, .val (.long q2), .second, .val (.long q3), .second, .val (.long q4), .second, .val (.long q5), .second, .val (.long q6), .second, .val (.long qa), .second, .val (.long qb), .second, .val (.long qc), .second, .val (.long ca), .second, .val (.long cb), .second, .val (.long cc), .second, .val (.double FP.dconst0), .second, .val (.double (FP.i2d xb)), .second, .val (.double FP.dconst0), .second, .val (.ref a119), .val (.ref a123), .val (.ref a127), .val (.ref b131), .unset, .unset, .unset, .unset, .unset, .unset, .unset, .unset, .unset, .unset, .unset, .unset, .unset, .unset, .unset, .unset, .unset]) rfl ?_
        refine g_aload C S at_189 (pc' := 191) rfl rfl rfl ?_
        refine g_arraylength C S (x := (3 : Int32)) at_191 A_b131 (by decide) (pc' := 192) rfl ?_
        refine g_iconst C S (3 : Int32) at_192 (pc' := 193) rfl rfl ?_
        refine g_icmp_eq C S at_193 (pc' := 198) (pf := 196) (by decide) (by decide) rfl (fun hc193 => ?_) (fun hc193 => absurd rfl hc193)
        refine g_iconst C S (0 : Int32) at_198 (pc' := 199) rfl rfl ?_
        refine g_istore C S at_199 (pc' := 201) rfl (L' := #[.val (.long q1), .second, .val (.long q2), .second, .val (.long q3), .second, .val (.long q4), .second, .val (.long q5), .second, .val (.long q6), .second, .val (.long qa), .second, .val (.long qb), .second, .val (.long qc), .second, .val (.long ca), .second, .val (.long cb), .second, .val (.long cc), .second, .val (.double FP.dconst0), .second, .val (.double (FP.i2d xb)), .second, .val (.double FP.dconst0), .second, .val (.ref a119), .val (.ref a123), .val (.ref a127), .val (.ref b131), .val (.int (0 : Int32)), .unset, .unset, .unset, .unset, .unset, .unset, .unset, .unset, .unset, .unset, .unset, .unset, .unset, .unset, .unset, .unset]) rfl ?_
        refine g_dconst0 C S at_201 (pc' := 202) rfl ?_
        refine g_dstore C S at_202 (pc' := 204) rfl (L' := #[.val (.long q1), .second, .val (.long q2), .second, .val (.long q3), .second, .val (.long q4), .second, .val (.long q5), .second, .val (.long q6), .second, .val (.long qa), .second, .val (.long qb), .second, .val (.long qc), .second, .val (.long ca), .second, .val (.long cb), .second, .val (.long cc), .second, .val (.double FP.dconst0), .second, .val (.double (FP.i2d xb)), .second, .val (.double FP.dconst0), .second, .val (.ref a119), .val (.ref a123), .val (.ref a127), .val (.ref b131), .val (.int (0 : Int32)), .val (.double FP.dconst0), .second, .unset, .unset, .unset, .unset, .unset, .unset, .unset, .unset, .unset, .unset, .unset, .unset, .unset, .unset]) rfl ?_
        refine g_dconst0 C S at_204 (pc' := 205) rfl ?_
        refine g_dstore C S at_205 (pc' := 207) rfl (L' := #[.val (.long q1), .second, .val (.long q2), .second, .val (.long q3), .second, .val (.long q4), .second, .val (.long q5), .second, .val (.long q6), .second, .val (.long qa), .second, .val (.long qb), .second, .val (.long qc), .second, .val (.long ca), .second, .val (.long cb), .second, .val (.long cc), .second, .val (.double FP.dconst0), .second, .val (.double (FP.i2d xb)), .second, .val (.double FP.dconst0), .second, .val (.ref a119), .val (.ref a123), .val (.ref a127), .val (.ref b131), .val (.int (0 : Int32)), .val (.double FP.dconst0), .second, .val (.double FP.dconst0), .second, .unset, .unset, .unset, .unset, .unset, .unset, .unset, .unset, .unset, .unset, .unset, .unset]) rfl ?_
        refine g_dconst0 C S at_207 (pc' := 208) rfl ?_
        refine g_dstore C S at_208 (pc' := 210) rfl (L' := #[.val (.long q1), .second, .val (.long q2), .second, .val (.long q3), .second, .val (.long q4), .second, .val (.long q5), .second, .val (.long q6), .second, .val (.long qa), .second, .val (.long qb), .second, .val (.long qc), .second, .val (.long ca), .second, .val (.long cb), .second, .val (.long cc), .second, .val (.double FP.dconst0), .second, .val (.double (FP.i2d xb)), .second, .val (.double FP.dconst0), .second, .val (.ref a119), .val (.ref a123), .val (.ref a127), .val (.ref b131), .val (.int (0 : Int32)), .val (.double FP.dconst0), .second, .val (.double FP.dconst0), .second, .val (.double FP.dconst0), .second, .unset, .unset, .unset, .unset, .unset, .unset, .unset, .unset, .unset, .unset]) rfl ?_
        refine g_dconst0 C S at_210 (pc' := 211) rfl ?_
        refine g_dstore C S at_211 (pc' := 213) rfl (L' := #[.val (.long q1), .second, .val (.long q2), .second, .val (.long q3), .second, .val (.long q4), .second, .val (.long q5), .second, .val (.long q6), .second, .val (.long qa), .second, .val (.long qb), .second, .val (.long qc), .second, .val (.long ca), .second, .val (.long cb), .second, .val (.long cc), .second, .val (.double FP.dconst0), .second, .val (.double (FP.i2d xb)), .second, .val (.double FP.dconst0), .second, .val (.ref a119), .val (.ref a123), .val (.ref a127), .val (.ref b131), .val (.int (0 : Int32)), .val (.double FP.dconst0), .second, .val (.double FP.dconst0), .second, .val (.double FP.dconst0), .second, .val (.double FP.dconst0), .second, .unset, .unset, .unset, .unset, .unset, .unset, .unset, .unset]) rfl ?_
        refine g_lload C S at_213 (pc' := 215) rfl rfl ?_
        refine g_lconst C S (0 : Int64) at_215 (pc' := 216) rfl rfl ?_
        refine g_lcmp C S at_216 (pc' := 217) rfl ?_
        refine g_lif_le C S at_217 (pc' := 241) (pf := 220) (by decide) (by decide) rfl (fun hc217 => ?_) (fun hc217 => absurd hc217 hc53)
        refine g_lload C S at_241 (pc' := 243) rfl rfl ?_
        refine g_lconst C S (0 : Int64) at_243 (pc' := 244) rfl rfl ?_
        refine g_lcmp C S at_244 (pc' := 245) rfl ?_
        refine g_lif_le C S at_245 (pc' := 269) (pf := 248) (by decide) (by decide) rfl (fun hc245 => absurd hc74 hc245) (fun hc245 => ?_)
        refine g_dload C S at_248 (pc' := 250) rfl rfl ?_
        refine g_lload C S at_250 (pc' := 252) rfl rfl ?_
        refine g_l2d C S at_252 (pc' := 253) rfl ?_
        refine g_ddiv C S at_253 (pc' := 254) rfl (nn_of (ddiv_mag (K := 1056) (L := 1023) (Jvm.Free.Fl.i2d_mag _) (l2d_big (own_nz hc74)) (by decide) (by decide)) (by decide)) ?_
        refine g_dstore C S at_254 (pc' := 256) rfl (L' := #[.val (.long q1), .second, .val (.long q2), .second, .val (.long q3), .second, .val (.long q4), .second, .val (.long q5), .second, .val (.long q6), .second, .val (.long qa), .second, .val (.long qb), .second, .val (.long qc), .second, .val (.long ca), .second, .val (.long cb), .second, .val (.long cc), .second, .val (.double FP.dconst0), .second, .val (.double (FP.i2d xb)), .second, .val (.double FP.dconst0), .second, .val (.ref a119), .val (.ref a123), .val (.ref a127), .val (.ref b131), .val (.int (0 : Int32)), .val (.double FP.dconst0), .second, .val (.double FP.dconst0), .second, .val (.double (FP.ddiv (FP.i2d xb) (FP.l2d cb))), .second, .val (.double FP.dconst0), .second, .unset, .unset, .unset, .unset, .unset, .unset, .unset, .unset]) rfl ?_
        refine g_dload C S at_256 (pc' := 258) rfl rfl ?_
        refine g_dload C S at_258 (pc' := 260) rfl rfl ?_
        refine g_dadd C S at_260 (pc' := 261) rfl (nn_of (Jvm.Free.Fl.dadd_mag (K := 1057) (Jvm.Free.Fl.Mag64.mono own_mag0 (by decide)) (Jvm.Free.Fl.Mag64.mono (ddiv_mag (K := 1056) (L := 1023) (Jvm.Free.Fl.i2d_mag _) (l2d_big (own_nz hc74)) (by decide) (by decide)) (by decide)) (by decide)) (by decide)) ?_
        refine g_dstore C S at_261 (pc' := 263) rfl (L' := #[.val (.long q1), .second, .val (.long q2), .second, .val (.long q3), .second, .val (.long q4), .second, .val (.long q5), .second, .val (.long q6), .second, .val (.long qa), .second, .val (.long qb), .second, .val (.long qc), .second, .val (.long ca), .second, .val (.long cb), .second, .val (.long cc), .second, .val (.double FP.dconst0), .second, .val (.double (FP.i2d xb)), .second, .val (.double FP.dconst0), .second, .val (.ref a119), .val (.ref a123), .val (.ref a127), .val (.ref b131), .val (.int (0 : Int32)), .val (.double (FP.dadd FP.dconst0 (FP.ddiv (FP.i2d xb) (FP.l2d cb)))), .second, .val (.double FP.dconst0), .second, .val (.double (FP.ddiv (FP.i2d xb) (FP.l2d cb))), .second, .val (.double FP.dconst0), .second, .unset, .unset, .unset, .unset, .unset, .unset, .unset, .unset]) rfl ?_
        refine g_iload C S at_263 (pc' := 265) rfl rfl ?_
        refine g_iconst C S (1 : Int32) at_265 (pc' := 266) rfl rfl ?_
        refine g_iadd C S at_266 (pc' := 267) rfl ?_
        refine g_istore C S at_267 (pc' := 269) rfl (L' := #[.val (.long q1), .second, .val (.long q2), .second, .val (.long q3), .second, .val (.long q4), .second, .val (.long q5), .second, .val (.long q6), .second, .val (.long qa), .second, .val (.long qb), .second, .val (.long qc), .second, .val (.long ca), .second, .val (.long cb), .second, .val (.long cc), .second, .val (.double FP.dconst0), .second, .val (.double (FP.i2d xb)), .second, .val (.double FP.dconst0), .second, .val (.ref a119), .val (.ref a123), .val (.ref a127), .val (.ref b131), .val (.int ((0 : Int32) + (1 : Int32))), .val (.double (FP.dadd FP.dconst0 (FP.ddiv (FP.i2d xb) (FP.l2d cb)))), .second, .val (.double FP.dconst0), .second, .val (.double (FP.ddiv (FP.i2d xb) (FP.l2d cb))), .second, .val (.double FP.dconst0), .second, .unset, .unset, .unset, .unset, .unset, .unset, .unset, .unset]) rfl ?_
        refine g_lload C S at_269 (pc' := 271) rfl rfl ?_
        refine g_lconst C S (0 : Int64) at_271 (pc' := 272) rfl rfl ?_
        refine g_lcmp C S at_272 (pc' := 273) rfl ?_
        refine g_lif_le C S at_273 (pc' := 297) (pf := 276) (by decide) (by decide) rfl (fun hc273 => ?_) (fun hc273 => absurd hc273 hc98)
        refine g_iload C S at_297 (pc' := 299) rfl rfl ?_
        refine g_if_ne C S at_299 (pc' := 306) (pf := 302) (by decide) (by decide) rfl (fun hc299 => ?_) (fun hc299 => absurd hc299 (by decide))
        refine g_dload C S at_306 (pc' := 308) rfl rfl ?_
        refine g_iload C S at_308 (pc' := 310) rfl rfl ?_
        refine g_i2d C S at_310 (pc' := 311) rfl ?_
        refine g_ddiv C S at_311 (pc' := 312) rfl (nn_of (ddiv_mag (K := 1059) (L := 1023) (Jvm.Free.Fl.dadd_mag (K := 1057) (Jvm.Free.Fl.Mag64.mono own_mag0 (by decide)) (Jvm.Free.Fl.Mag64.mono (ddiv_mag (K := 1056) (L := 1023) (Jvm.Free.Fl.i2d_mag _) (l2d_big (own_nz hc74)) (by decide) (by decide)) (by decide)) (by decide)) (own_i2d (by decide)) (by decide) (by decide)) (by decide)) ?_
        refine g_dstore C S at_312 (pc' := 314) rfl (L' := #[.val (.long q1), .second, .val (.long q2), .second, .val (.long q3), .second, .val (.long q4), .second, .val (.long q5), .second, .val (.long q6), .second, .val (.long qa), .second, .val (.long qb), .second, .val (.long qc), .second, .val (.long ca), .second, .val (.long cb), .second, .val (.long cc), .second, .val (.double FP.dconst0), .second, .val (.double (FP.i2d xb)), .second, .val (.double FP.dconst0), .second, .val (.ref a119), .val (.ref a123), .val (.ref a127), .val (.ref b131), .val (.int ((0 : Int32) + (1 : Int32))), .val (.double (FP.dadd FP.dconst0 (FP.ddiv (FP.i2d xb) (FP.l2d cb)))), .second, .val (.double FP.dconst0), .second, .val (.double (FP.ddiv (FP.i2d xb) (FP.l2d cb))), .second, .val (.double FP.dconst0), .second, .val (.double (FP.ddiv (FP.dadd FP.dconst0 (FP.ddiv (FP.i2d xb) (FP.l2d cb))) (FP.i2d ((0 : Int32) + (1 : Int32))))), .second, .unset, .unset, .unset, .unset, .unset, .unset]) rfl ?_
        refine g_lload C S at_314 (pc' := 316) rfl rfl ?_
        refine g_lconst C S (0 : Int64) at_316 (pc' := 317) rfl rfl ?_
        refine g_lcmp C S at_317 (pc' := 318) rfl ?_
        refine g_lif_le C S at_318 (pc' := 326) (pf := 321) (by decide) (by decide) rfl (fun hc318 => ?_) (fun hc318 => absurd hc318 hc53)
        refine g_dload C S at_326 (pc' := 328) rfl rfl ?_
        refine g_dstore C S at_328 (pc' := 330) rfl (L' := #[.val (.long q1), .second, .val (.long q2), .second, .val (.long q3), .second, .val (.long q4), .second, .val (.long q5), .second, .val (.long q6), .second, .val (.long qa), .second, .val (.long qb), .second, .val (.long qc), .second, .val (.long ca), .second, .val (.long cb), .second, .val (.long cc), .second, .val (.double FP.dconst0), .second, .val (.double (FP.i2d xb)), .second, .val (.double FP.dconst0), .second, .val (.ref a119), .val (.ref a123), .val (.ref a127), .val (.ref b131), .val (.int ((0 : Int32) + (1 : Int32))), .val (.double (FP.dadd FP.dconst0 (FP.ddiv (FP.i2d xb) (FP.l2d cb)))), .second, .val (.double FP.dconst0), .second, .val (.double (FP.ddiv (FP.i2d xb) (FP.l2d cb))), .second, .val (.double FP.dconst0), .second, .val (.double (FP.ddiv (FP.dadd FP.dconst0 (FP.ddiv (FP.i2d xb) (FP.l2d cb))) (FP.i2d ((0 : Int32) + (1 : Int32))))), .second, .val (.double (FP.ddiv (FP.dadd FP.dconst0 (FP.ddiv (FP.i2d xb) (FP.l2d cb))) (FP.i2d ((0 : Int32) + (1 : Int32))))), .second, .unset, .unset, .unset, .unset]) rfl ?_
        refine g_lload C S at_330 (pc' := 332) rfl rfl ?_
        refine g_lconst C S (0 : Int64) at_332 (pc' := 333) rfl rfl ?_
        refine g_lcmp C S at_333 (pc' := 334) rfl ?_
        refine g_lif_le C S at_334 (pc' := 342) (pf := 337) (by decide) (by decide) rfl (fun hc334 => absurd hc74 hc334) (fun hc334 => ?_)
        refine g_dload C S at_337 (pc' := 339) rfl rfl ?_
        refine g_goto C S at_339 (pc' := 344) (by decide) (by decide) ?_
        refine g_dstore C S at_344 (pc' := 346) rfl (L' := #[.val (.long q1), .second, .val (.long q2), .second, .val (.long q3), .second, .val (.long q4), .second, .val (.long q5), .second, .val (.long q6), .second, .val (.long qa), .second, .val (.long qb), .second, .val (.long qc), .second, .val (.long ca), .second, .val (.long cb), .second, .val (.long cc), .second, .val (.double FP.dconst0), .second, .val (.double (FP.i2d xb)), .second, .val (.double FP.dconst0), .second, .val (.ref a119), .val (.ref a123), .val (.ref a127), .val (.ref b131), .val (.int ((0 : Int32) + (1 : Int32))), .val (.double (FP.dadd FP.dconst0 (FP.ddiv (FP.i2d xb) (FP.l2d cb)))), .second, .val (.double FP.dconst0), .second, .val (.double (FP.ddiv (FP.i2d xb) (FP.l2d cb))), .second, .val (.double FP.dconst0), .second, .val (.double (FP.ddiv (FP.dadd FP.dconst0 (FP.ddiv (FP.i2d xb) (FP.l2d cb))) (FP.i2d ((0 : Int32) + (1 : Int32))))), .second, .val (.double (FP.ddiv (FP.dadd FP.dconst0 (FP.ddiv (FP.i2d xb) (FP.l2d cb))) (FP.i2d ((0 : Int32) + (1 : Int32))))), .second, .val (.double (FP.ddiv (FP.i2d xb) (FP.l2d cb))), .second, .unset, .unset]) rfl ?_
        refine g_lload C S at_346 (pc' := 348) rfl rfl ?_
        refine g_lconst C S (0 : Int64) at_348 (pc' := 349) rfl rfl ?_
        refine g_lcmp C S at_349 (pc' := 350) rfl ?_
        refine g_lif_le C S at_350 (pc' := 358) (pf := 353) (by decide) (by decide) rfl (fun hc350 => ?_) (fun hc350 => absurd hc350 hc98)
        refine g_dload C S at_358 (pc' := 360) rfl rfl ?_
        refine g_dstore C S at_360 (pc' := 362) rfl (L' := #[.val (.long q1), .second, .val (.long q2), .second, .val (.long q3), .second, .val (.long q4), .second, .val (.long q5), .second, .val (.long q6), .second, .val (.long qa), .second, .val (.long qb), .second, .val (.long qc), .second, .val (.long ca), .second, .val (.long cb), .second, .val (.long cc), .second, .val (.double FP.dconst0), .second, .val (.double (FP.i2d xb)), .second, .val (.double FP.dconst0), .second, .val (.ref a119), .val (.ref a123), .val (.ref a127), .val (.ref b131), .val (.int ((0 : Int32) + (1 : Int32))), .val (.double (FP.dadd FP.dconst0 (FP.ddiv (FP.i2d xb) (FP.l2d cb)))), .second, .val (.double FP.dconst0), .second, .val (.double (FP.ddiv (FP.i2d xb) (FP.l2d cb))), .second, .val (.double FP.dconst0), .second, .val (.double (FP.ddiv (FP.dadd FP.dconst0 (FP.ddiv (FP.i2d xb) (FP.l2d cb))) (FP.i2d ((0 : Int32) + (1 : Int32))))), .second, .val (.double (FP.ddiv (FP.dadd FP.dconst0 (FP.ddiv (FP.i2d xb) (FP.l2d cb))) (FP.i2d ((0 : Int32) + (1 : Int32))))), .second, .val (.double (FP.ddiv (FP.i2d xb) (FP.l2d cb))), .second, .val (.double (FP.ddiv (FP.dadd FP.dconst0 (FP.ddiv (FP.i2d xb) (FP.l2d cb))) (FP.i2d ((0 : Int32) + (1 : Int32))))), .second]) rfl ?_
        refine g_aload C S at_362 (pc' := 364) rfl rfl rfl ?_
        refine g_iconst C S (0 : Int32) at_364 (pc' := 365) rfl rfl ?_
        refine g_daload C S (i := 0) (v := (.double (FP.dmul (FP.l2d qa) (FP.ddiv (FP.dadd FP.dconst0 (FP.ddiv (FP.i2d xb) (FP.l2d cb))) (FP.i2d ((0 : Int32) + (1 : Int32))))))) at_365 A_b131 (by decide) (by decide) hw0 (pc' := 366) rfl ?_
        refine g_lload C S at_366 (pc' := 368) rfl rfl ?_
        refine g_l2d C S at_368 (pc' := 369) rfl ?_
        refine g_dload C S at_369 (pc' := 371) rfl rfl ?_
        refine g_dmul C S at_371 (pc' := 372) rfl (nn_of (Jvm.Free.Fl.dmul_mag (Ka := 1088) (Kb := 1060) (Jvm.Free.Fl.l2d_mag _) (ddiv_mag (K := 1059) (L := 1023) (Jvm.Free.Fl.dadd_mag (K := 1057) (Jvm.Free.Fl.Mag64.mono own_mag0 (by decide)) (Jvm.Free.Fl.Mag64.mono (ddiv_mag (K := 1056) (L := 1023) (Jvm.Free.Fl.i2d_mag _) (l2d_big (own_nz hc74)) (by decide) (by decide)) (by decide)) (by decide)) (own_i2d (by decide)) (by decide) (by decide)) (by decide) (by decide)) (by decide)) ?_
        refine g_dcmp C S at_372 (v := 0) (pc' := 373) rfl (dcmpV_self (nn_of (Jvm.Free.Fl.dmul_mag (Ka := 1088) (Kb := 1060) (Jvm.Free.Fl.l2d_mag _) (ddiv_mag (K := 1059) (L := 1023) (Jvm.Free.Fl.dadd_mag (K := 1057) (Jvm.Free.Fl.Mag64.mono own_mag0 (by decide)) (Jvm.Free.Fl.Mag64.mono (ddiv_mag (K := 1056) (L := 1023) (Jvm.Free.Fl.i2d_mag _) (l2d_big (own_nz hc74)) (by decide) (by decide)) (by decide)) (by decide)) (own_i2d (by decide)) (by decide) (by decide)) (by decide) (by decide)) (by decide)) _) ?_
        refine g_if_ne C S at_373 (pc' := 408) (pf := 376) (by decide) (by decide) rfl (fun hc373 => absurd rfl hc373) (fun hc373 => ?_)
        refine g_aload C S at_376 (pc' := 378) rfl rfl rfl ?_
        refine g_iconst C S (1 : Int32) at_378 (pc' := 379) rfl rfl ?_
        refine g_daload C S (i := 1) (v := (.double (FP.dmul (FP.l2d qb) (FP.ddiv (FP.i2d xb) (FP.l2d cb))))) at_379 A_b131 (by decide) (by decide) hw1 (pc' := 380) rfl ?_
        refine g_lload C S at_380 (pc' := 382) rfl rfl ?_
        refine g_l2d C S at_382 (pc' := 383) rfl ?_
        refine g_dload C S at_383 (pc' := 385) rfl rfl ?_
        refine g_dmul C S at_385 (pc' := 386) rfl (nn_of (Jvm.Free.Fl.dmul_mag (Ka := 1088) (Kb := 1057) (Jvm.Free.Fl.l2d_mag _) (ddiv_mag (K := 1056) (L := 1023) (Jvm.Free.Fl.i2d_mag _) (l2d_big (own_nz hc74)) (by decide) (by decide)) (by decide) (by decide)) (by decide)) ?_
        refine g_dcmp C S at_386 (v := 0) (pc' := 387) rfl (dcmpV_self (nn_of (Jvm.Free.Fl.dmul_mag (Ka := 1088) (Kb := 1057) (Jvm.Free.Fl.l2d_mag _) (ddiv_mag (K := 1056) (L := 1023) (Jvm.Free.Fl.i2d_mag _) (l2d_big (own_nz hc74)) (by decide) (by decide)) (by decide) (by decide)) (by decide)) _) ?_
        refine g_if_ne C S at_387 (pc' := 408) (pf := 390) (by decide) (by decide) rfl (fun hc387 => absurd rfl hc387) (fun hc387 => ?_)
        refine g_aload C S at_390 (pc' := 392) rfl rfl rfl ?_
        refine g_iconst C S (2 : Int32) at_392 (pc' := 393) rfl rfl ?_
        refine g_daload C S (i := 2) (v := (.double (FP.dmul (FP.l2d qc) (FP.ddiv (FP.dadd FP.dconst0 (FP.ddiv (FP.i2d xb) (FP.l2d cb))) (FP.i2d ((0 : Int32) + (1 : Int32))))))) at_393 A_b131 (by decide) (by decide) hw2 (pc' := 394) rfl ?_
        refine g_lload C S at_394 (pc' := 396) rfl rfl ?_
        refine g_l2d C S at_396 (pc' := 397) rfl ?_
        refine g_dload C S at_397 (pc' := 399) rfl rfl ?_
        refine g_dmul C S at_399 (pc' := 400) rfl (nn_of (Jvm.Free.Fl.dmul_mag (Ka := 1088) (Kb := 1060) (Jvm.Free.Fl.l2d_mag _) (ddiv_mag (K := 1059) (L := 1023) (Jvm.Free.Fl.dadd_mag (K := 1057) (Jvm.Free.Fl.Mag64.mono own_mag0 (by decide)) (Jvm.Free.Fl.Mag64.mono (ddiv_mag (K := 1056) (L := 1023) (Jvm.Free.Fl.i2d_mag _) (l2d_big (own_nz hc74)) (by decide) (by decide)) (by decide)) (by decide)) (own_i2d (by decide)) (by decide) (by decide)) (by decide) (by decide)) (by decide)) ?_
        refine g_dcmp C S at_400 (v := 0) (pc' := 401) rfl (dcmpV_self (nn_of (Jvm.Free.Fl.dmul_mag (Ka := 1088) (Kb := 1060) (Jvm.Free.Fl.l2d_mag _) (ddiv_mag (K := 1059) (L := 1023) (Jvm.Free.Fl.dadd_mag (K := 1057) (Jvm.Free.Fl.Mag64.mono own_mag0 (by decide)) (Jvm.Free.Fl.Mag64.mono (ddiv_mag (K := 1056) (L := 1023) (Jvm.Free.Fl.i2d_mag _) (l2d_big (own_nz hc74)) (by decide) (by decide)) (by decide)) (by decide)) (own_i2d (by decide)) (by decide) (by decide)) (by decide) (by decide)) (by decide)) _) ?_
        refine g_if_ne C S at_401 (pc' := 408) (pf := 404) (by decide) (by decide) rfl (fun hc401 => absurd rfl hc401) (fun hc401 => ?_)
        refine g_iconst C S (1 : Int32) at_404 (pc' := 405) rfl rfl ?_
        refine g_goto C S at_405 (pc' := 409) (by decide) (by decide) ?_
        exact g_retZ C S at_409 (by decide) (by decide) (by decide) (rfl)
      · refine g_lload C S at_101 (pc' := 103) rfl rfl ?_
        refine g_bipush C S (32 : Int32) at_103 (pc' := 105) rfl rfl ?_
        refine g_lushr C S at_105 (pc' := 106) rfl ?_
        refine g_ldc2 C S at_106 (hw _ (List.mem_of_getElem? (i := 2) rfl)) (pc' := 109) rfl ?_
        refine g_land C S at_109 (pc' := 110) rfl ?_
        refine g_l2i C S at_110 (pc' := 111) rfl ?_
        obtain ⟨xc, e_xc⟩ : ∃ z, z = ((((q6.toUInt64 >>> ((32 : Int32) &&& 0x3f).toInt64.toUInt64).toInt64) &&& (65535 : Int64)).toInt32) := ⟨_, rfl⟩
        rw [← e_xc]
        refine g_i2d C S at_111 (pc' := 112) rfl ?_
        refine g_goto C S at_112 (pc' := 116) (by decide) (by decide) ?_
        refine g_dstore C S at_116 (pc' := 118) rfl (L' := #[.val (.long q1), .second, .val (.long q2), .second, .val (.long q3), .second, .val (.long q4), .second, .val (.long q5), .second, .val (.long q6), .second, .val (.long qa), .second, .val (.long qb), .second, .val (.long qc), .second, .val (.long ca), .second, .val (.long cb), .second, .val (.long cc), .second, .val (.double FP.dconst0), .second, .val (.double (FP.i2d xb)), .second, .val (.double (FP.i2d xc)), .second, .unset, .unset, .unset, .unset, .unset, .unset, .unset, .unset, .unset, .unset, .unset, .unset, .unset, .unset, .unset, .unset, .unset, .unset, .unset, .unset, .unset]) rfl ?_
        refine g_iconst C S (3 : Int32) at_118 (pc' := 119) rfl rfl ?_
        refine g_newarray C S (N := 3) (cap := 3) at_119 (hw _ (List.mem_of_getElem? (i := 3) rfl)) (by decide) (by decide) (by decide) (by decide) (by decide) (pc' := 121) rfl (fun T132 h132 a132 S g132 E132 A_a132 => ?_)
        have ge_a132 : n0 ≤ a132 := ge_of g132 Zn
        have Zn := Nat.le_trans Zn E132.1
        have A_a132 : Ary Z h132 a132 .long 3 (fun _ => (.long (0 : Int64))) := A_a132
        refine g_dup C S at_121 (pc' := 122) rfl rfl ?_
        refine g_iconst C S (0 : Int32) at_122 (pc' := 123) rfl rfl ?_
        refine g_lload C S at_123 (pc' := 125) rfl rfl ?_
        refine g_lastore C S (i := 0) at_125 A_a132 (by decide) (by decide) ge_a132 (pc' := 126) rfl (fun T133 h133 S W133 B133 => ?_)
        have Zn := Nat.le_trans Zn (Nat.le_of_eq W133.size.symm)
        have A_a132 := B133
        refine g_dup C S at_126 (pc' := 127) rfl rfl ?_
        refine g_iconst C S (1 : Int32) at_127 (pc' := 128) rfl rfl ?_
        refine g_lload C S at_128 (pc' := 130) rfl rfl ?_
        refine g_lastore C S (i := 1) at_130 A_a132 (by decide) (by decide) ge_a132 (pc' := 131) rfl (fun T134 h134 S W134 B134 => ?_)
        have Zn := Nat.le_trans Zn (Nat.le_of_eq W134.size.symm)
        have A_a132 := B134
        refine g_dup C S at_131 (pc' := 132) rfl rfl ?_
        refine g_iconst C S (2 : Int32) at_132 (pc' := 133) rfl rfl ?_
        refine g_lload C S at_133 (pc' := 135) rfl rfl ?_
        refine g_lastore C S (i := 2) at_135 A_a132 (by decide) (by decide) ge_a132 (pc' := 136) rfl (fun T135 h135 S W135 B135 => ?_)
        have Zn := Nat.le_trans Zn (Nat.le_of_eq W135.size.symm)
        have A_a132 := B135
        refine g_astore C S at_136 (pc' := 138) rfl rfl (L' := #[.val (.long q1), .second, .val (.long q2), .second, .val (.long q3), .second, .val (.long q4), .second, .val (.long q5), .second, .val (.long q6), .second, .val (.long qa), .second, .val (.long qb), .second, .val (.long qc), .second, .val (.long ca), .second, .val (.long cb), .second, .val (.long cc), .second, .val (.double FP.dconst0), .second, .val (.double (FP.i2d xb)), .second, .val (.double (FP.i2d xc)), .second, .val (.ref a132), .unset, .unset, .unset, .unset, .unset, .unset, .unset, .unset, .unset, .unset, .unset, .unset, .unset, .unset, .unset, .unset, .unset, .unset, .unset, .unset]) rfl ?_
        refine g_iconst C S (3 : Int32) at_138 (pc' := 139) rfl rfl ?_
        refine g_newarray C S (N := 3) (cap := 3) at_139 (hw _ (List.mem_of_getElem? (i := 3) rfl)) (by decide) (by decide) (by decide) (by decide) (by decide) (pc' := 141) rfl (fun T136 h136 a136 S g136 E136 A_a136 => ?_)
        have ne_a132_a136 : a132 ≠ a136 := ne_new g136 A_a132.lt
        have ge_a136 : n0 ≤ a136 := ge_of g136 Zn
        have Zn := Nat.le_trans Zn E136.1
        have A_a132 := A_a132.ext E136
        have A_a136 : Ary Z h136 a136 .long 3 (fun _ => (.long (0 : Int64))) := A_a136
        refine g_dup C S at_141 (pc' := 142) rfl rfl ?_
        refine g_iconst C S (0 : Int32) at_142 (pc' := 143) rfl rfl ?_
        refine g_lload C S at_143 (pc' := 145) rfl rfl ?_
        refine g_lastore C S (i := 0) at_145 A_a136 (by decide) (by decide) ge_a136 (pc' := 146) rfl (fun T137 h137 S W137 B137 => ?_)
        have Zn := Nat.le_trans Zn (Nat.le_of_eq W137.size.symm)
        have A_a132 := A_a132.other W137 ne_a132_a136
        have A_a136 := B137
        refine g_dup C S at_146 (pc' := 147) rfl rfl ?_
        refine g_iconst C S (1 : Int32) at_147 (pc' := 148) rfl rfl ?_
        refine g_lload C S at_148 (pc' := 150) rfl rfl ?_
        refine g_lastore C S (i := 1) at_150 A_a136 (by decide) (by decide) ge_a136 (pc' := 151) rfl (fun T138 h138 S W138 B138 => ?_)
        have Zn := Nat.le_trans Zn (Nat.le_of_eq W138.size.symm)
        have A_a132 := A_a132.other W138 ne_a132_a136
        have A_a136 := B138
        refine g_dup C S at_151 (pc' := 152) rfl rfl ?_
        refine g_iconst C S (2 : Int32) at_152 (pc' := 153) rfl rfl ?_
        refine g_lload C S at_153 (pc' := 155) rfl rfl ?_
        refine g_lastore C S (i := 2) at_155 A_a136 (by decide) (by decide) ge_a136 (pc' := 156) rfl (fun T139 h139 S W139 B139 => ?_)
        have Zn := Nat.le_trans Zn (Nat.le_of_eq W139.size.symm)
        have A_a132 := A_a132.other W139 ne_a132_a136
        have A_a136 := B139
        refine g_astore C S at_156 (pc' := 158) rfl rfl (L' := #[.val (.long q1), .second, .val (.long q2), .second, .val (.long q3), .second, .val (.long q4), .second, .val (.long q5), .second, .val (.long q6), .second, .val (.long qa), .second, .val (.long qb), .second, .val (.long qc), .second, .val (.long ca), .second, .val (.long cb), .second, .val (.long cc), .second, .val (.double FP.dconst0), .second, .val (.double (FP.i2d xb)), .second, .val (.double (FP.i2d xc)), .second, .val (.ref a132), .val (.ref a136), .unset, .unset, .unset, .unset, .unset, .unset, .unset, .unset, .unset, .unset, .unset, .unset, .unset, .unset, .unset, .unset, .unset, .unset, .unset]) rfl ?_
        refine g_iconst C S (3 : Int32) at_158 (pc' := 159) rfl rfl ?_
        refine g_newarray C S (N := 3) (cap := 3) at_159 (hw _ (List.mem_of_getElem? (i := 4) rfl)) (by decide) (by decide) (by decide) (by decide) (by decide) (pc' := 161) rfl (fun T140 h140 a140 S g140 E140 A_a140 => ?_)
        have ne_a132_a140 : a132 ≠ a140 := ne_new g140 A_a132.lt
        have ne_a136_a140 : a136 ≠ a140 := ne_new g140 A_a136.lt
        have ge_a140 : n0 ≤ a140 := ge_of g140 Zn
        have Zn := Nat.le_trans Zn E140.1
        have A_a132 := A_a132.ext E140
        have A_a136 := A_a136.ext E140
        have A_a140 : Ary Z h140 a140 .double 3 (fun _ => (.double 0)) := A_a140
        refine g_dup C S at_161 (pc' := 162) rfl rfl ?_
        refine g_iconst C S (0 : Int32) at_162 (pc' := 163) rfl rfl ?_
        refine g_dload C S at_163 (pc' := 165) rfl rfl ?_
        refine g_dastore C S (i := 0) at_165 A_a140 (by decide) (by decide) ge_a140 (pc' := 166) rfl (fun T141 h141 S W141 B141 => ?_)
        have Zn := Nat.le_trans Zn (Nat.le_of_eq W141.size.symm)
        have A_a132 := A_a132.other W141 ne_a132_a140
        have A_a136 := A_a136.other W141 ne_a136_a140
        have A_a140 := B141
        refine g_dup C S at_166 (pc' := 167) rfl rfl ?_
        refine g_iconst C S (1 : Int32) at_167 (pc' := 168) rfl rfl ?_
        refine g_dload C S at_168 (pc' := 170) rfl rfl ?_
        refine g_dastore C S (i := 1) at_170 A_a140 (by decide) (by decide) ge_a140 (pc' := 171) rfl (fun T142 h142 S W142 B142 => ?_)
        have Zn := Nat.le_trans Zn (Nat.le_of_eq W142.size.symm)
        have A_a132 := A_a132.other W142 ne_a132_a140
        have A_a136 := A_a136.other W142 ne_a136_a140
        have A_a140 := B142
        refine g_dup C S at_171 (pc' := 172) rfl rfl ?_
        refine g_iconst C S (2 : Int32) at_172 (pc' := 173) rfl rfl ?_
        refine g_dload C S at_173 (pc' := 175) rfl rfl ?_
        refine g_dastore C S (i := 2) at_175 A_a140 (by decide) (by decide) ge_a140 (pc' := 176) rfl (fun T143 h143 S W143 B143 => ?_)
        have Zn := Nat.le_trans Zn (Nat.le_of_eq W143.size.symm)
        have A_a132 := A_a132.other W143 ne_a132_a140
        have A_a136 := A_a136.other W143 ne_a136_a140
        have A_a140 := B143
        refine g_astore C S at_176 (pc' := 178) rfl rfl (L' := #[.val (.long q1), .second, .val (.long q2), .second, .val (.long q3), .second, .val (.long q4), .second, .val (.long q5), .second, .val (.long q6), .second, .val (.long qa), .second, .val (.long qb), .second, .val (.long qc), .second, .val (.long ca), .second, .val (.long cb), .second, .val (.long cc), .second, .val (.double FP.dconst0), .second, .val (.double (FP.i2d xb)), .second, .val (.double (FP.i2d xc)), .second, .val (.ref a132), .val (.ref a136), .val (.ref a140), .unset, .unset, .unset, .unset, .unset, .unset, .unset, .unset, .unset, .unset, .unset, .unset, .unset, .unset, .unset, .unset, .unset, .unset]) rfl ?_
        refine g_aload C S at_178 (pc' := 180) rfl rfl rfl ?_
        refine g_aload C S at_180 (pc' := 182) rfl rfl rfl ?_
        refine g_aload C S at_182 (pc' := 184) rfl rfl rfl ?_
        refine g_callS C S (rm := ({ frames := 1, cells := 2, slots := 6, locals := 20 } : Room)) (W := 0) at_184 (hw _ (List.mem_of_getElem? (i := 5) rfl)) (hw _ (List.mem_of_getElem? (i := 6) rfl)) (hw _ (List.mem_of_getElem? (i := 7) rfl)) (hw _ (List.mem_of_getElem? (i := 8) rfl)) (by decide) (c_wt011 l Z a0 hw a132 a136 a140 h143 n0 ca cb cc FP.dconst0 (FP.i2d xb) (FP.i2d xc) _ _ own_mag0 (Jvm.Free.Fl.i2d_mag _) (Jvm.Free.Fl.i2d_mag _) rfl rfl rfl rfl rfl rfl qa qb qc _ rfl rfl rfl hc53 hc74 hc98 Zn A_a132 A_a136 A_a140) (argsL := [(.ref a132), (.ref a136), (.ref a140)]) (r := []) rfl (lenOf pd_1 rfl) rfl (Nat.le_of_eq rfl) (by decide) (by decide) (by decide) (by decide) (pc' := 187) rfl (fun T144 h144 v144 q144 S => ?_)
        obtain ⟨b144, fw, rfl, ge_b144, sz_b144, A_b144, hw0, hw1, hw2⟩ := q144
        show Gl p e below s _ n0 _ T144 (mkF m 187 #[.val (.long q1), .second, .val (.long q2), .second, .val (.long q3), .second, .val (.long q4), .second, .val (.long q5), .second, .val (.long q6), .second, .val (.long qa), .second, .val (.long qb), .second, .val (.long qc), .second, .val (.long ca), .second, .val (.long cb), .second, .val (.long cc), .second, .val (.double FP.dconst0), .second, .val (.double (FP.i2d xb)), .second, .val (.double (FP.i2d xc)), .second, .val (.ref a132), .val (.ref a136), .val (.ref a140), .unset, .unset, .unset, .unset, .unset, .unset, .unset, .unset, .unset, .unset, .unset, .unset, .unset, .unset, .unset, .unset, .unset, .unset] [(.ref b144)])
        refine g_astore C S at_187 (pc' := 189) rfl rfl (L' := #[.val (.long q1), .second, .val (.long q2), .second, .val (.long q3), .second, .val (.long q4), .second, .val (.long q5), .second, .val (.long q6), .second, .val (.long qa), .second, .val (.long qb), .second, .val (.long qc), .second, .val (.long ca), .second, .val (.long cb), .second, .val (.long cc), .second, .val (.double FP.dconst0), .second, .val (.double (FP.i2d xb)), .second, .val (.double (FP.i2d xc)), .second, .val (.ref a132), .val (.ref a136), .val (.ref a140), .val (.ref b144), .unset, .unset, .unset, .unset, .unset, .unset, .unset, .unset, .unset, .unset, .unset, .unset, .unset, .unset, .unset, .unset, .unset]) rfl ?_
        refine g_aload C S at_189 (pc' := 191) rfl rfl rfl ?_
        refine g_arraylength C S (x := (3 : Int32)) at_191 A_b144 (by decide) (pc' := 192) rfl ?_
        refine g_iconst C S (3 : Int32) at_192 (pc' := 193) rfl rfl ?_
        refine g_icmp_eq C S at_193 (pc' := 198) (pf := 196) (by decide) (by decide) rfl (fun hc193 => ?_) (fun hc193 => absurd rfl hc193)
        refine g_iconst C S (0 : Int32) at_198 (pc' := 199) rfl rfl ?_
        refine g_istore C S at_199 (pc' := 201) rfl (L' := #[.val (.long q1), .second, .val (.long q2), .second, .val (.long q3), .second, .val (.long q4), .second, .val (.long q5), .second, .val (.long q6), .second, .val (.long qa), .second, .val (.long qb), .second, .val (.long qc), .second, .val (.long ca), .second, .val (.long cb), .second, .val (.long cc), .second, .val (.double FP.dconst0), .second, .val (.double (FP.i2d xb)), .second, .val (.double (FP.i2d xc)), .second, .val (.ref a132), .val (.ref a136), .val (.ref a140), .val (.ref b144), .val (.int (0 : Int32)), .unset, .unset, .unset, .unset, .unset, .unset, .unset, .unset, .unset, .unset, .unset, .unset, .unset, .unset, .unset, .unset]) rfl ?_
        refine g_dconst0 C S at_201 (pc' := 202) rfl ?_
        refine g_dstore C S at_202 (pc' := 204) rfl (L' := #[.val (.long q1), .second, .val (.long q2), .second, .val (.long q3), .second, .val (.long q4), .second, .val (.long q5), .second, .val (.long q6), .second, .val (.long qa), .second, .val (.long qb), .second, .val (.long qc), .second, .val (.long ca), .second, .val (.long cb), .second, .val (.long cc), .second, .val (.double FP.dconst0), .second, .val (.double (FP.i2d xb)), .second, .val (.double (FP.i2d xc)), .second, .val (.ref a132), .val (.ref a136), .val (.ref a140), .val (.ref b144), .val (.int (0 : Int32)), .val (.double FP.dconst0), .second, .unset, .unset, .unset, .unset, .unset, .unset, .unset, .unset, .unset, .unset, .unset, .unset, .unset, .unset]) rfl ?_
        refine g_dconst0 C S at_204 (pc' := 205) rfl ?_
        refine g_dstore C S at_205 (pc' := 207) rfl (L' := #[.val (.long q1), .second, .val (.long q2), .second, .val (.long q3), .second, .val (.long q4), .second, .val (.long q5), .second, .val (.long q6), .second, .val (.long qa), .second, .val (.long qb), .second, .val (.long qc), .second, .val (.long ca), .second, .val (.long cb), .second, .val (.long cc), .second, .val (.double FP.dconst0), .second, .val (.double (FP.i2d xb)), .second, .val (.double (FP.i2d xc)), .second, .val (.ref a132), .val (.ref a136), .val (.ref a140), .val (.ref b144), .val (.int (0 : Int32)), .val (.double FP.dconst0), .second, .val (.double FP.dconst0), .second, .unset, .unset, .unset, .unset, .unset, .unset, .unset, .unset, .unset, .unset, .unset, .unset]) rfl ?_
        refine g_dconst0 C S at_207 (pc' := 208) rfl ?_
        refine g_dstore C S at_208 (pc' := 210) rfl (L' := #[.val (.long q1), .second, .val (.long q2), .second, .val (.long q3), .second, .val (.long q4), .second, .val (.long q5), .second, .val (.long q6), .second, .val (.long qa), .second, .val (.long qb), .second, .val (.long qc), .second, .val (.long ca), .second, .val (.long cb), .second, .val (.long cc), .second, .val (.double FP.dconst0), .second, .val (.double (FP.i2d xb)), .second, .val (.double (FP.i2d xc)), .second, .val (.ref a132), .val (.ref a136), .val (.ref a140), .val (.ref b144), .val (.int (0 : Int32)), .val (.double FP.dconst0), .second, .val (.double FP.dconst0), .second, .val (.double FP.dconst0), .second, .unset, .unset, .unset, .unset, .unset, .unset, .unset, .unset, .unset, .unset]) rfl ?_
        refine g_dconst0 C S at_210 (pc' := 211) rfl ?_
        refine g_dstore C S at_211 (pc' := 213) rfl (L' := #[.val (.long q1), .second, .val (.long q2), .second, .val (.long q3), .second, .val (.long q4), .second, .val (.long q5), .second, .val (.long q6), .second, .val (.long qa), .second, .val (.long qb), .second, .val (.long qc), .second, .val (.long ca), .second, .val (.long cb), .second, .val (.long cc), .second, .val (.double FP.dconst0), .second, .val (.double (FP.i2d xb)), .second, .val (.double (FP.i2d xc)), .second, .val (.ref a132), .val (.ref a136), .val (.ref a140), .val (.ref b144), .val (.int (0 : Int32)), .val (.double FP.dconst0), .second, .val (.double FP.dconst0), .second, .val (.double FP.dconst0), .second, .val (.double FP.dconst0), .second, .unset, .unset, .unset, .unset, .unset, .unset, .unset, .unset]) rfl ?_
        refine g_lload C S at_213 (pc' := 215) rfl rfl ?_
        refine g_lconst C S (0 : Int64) at_215 (pc' := 216) rfl rfl ?_
        refine g_lcmp C S at_216 (pc' := 217) rfl ?_
        refine g_lif_le C S at_217 (pc' := 241) (pf := 220) (by decide) (by decide) rfl (fun hc217 => ?_) (fun hc217 => absurd hc217 hc53)
        refine g_lload C S at_241 (pc' := 243) rfl rfl ?_
        refine g_lconst C S (0 : Int64) at_243 (pc' := 244) rfl rfl ?_
        refine g_lcmp C S at_244 (pc' := 245) rfl ?_
        refine g_lif_le C S at_245 (pc' := 269) (pf := 248) (by decide) (by decide) rfl (fun hc245 => absurd hc74 hc245) (fun hc245 => ?_)
        refine g_dload C S at_248 (pc' := 250) rfl rfl ?_
        refine g_lload C S at_250 (pc' := 252) rfl rfl ?_
        refine g_l2d C S at_252 (pc' := 253) rfl ?_
        refine g_ddiv C S at_253 (pc' := 254) rfl (nn_of (ddiv_mag (K := 1056) (L := 1023) (Jvm.Free.Fl.i2d_mag _) (l2d_big (own_nz hc74)) (by decide) (by decide)) (by decide)) ?_
        refine g_dstore C S at_254 (pc' := 256) rfl (L' := #[.val (.long q1), .second, .val (.long q2), .second, .val (.long q3), .second, .val (.long q4), .second, .val (.long q5), .second, .val (.long q6), .second, .val (.long qa), .second, .val (.long qb), .second, .val (.long qc), .second, .val (.long ca), .second, .val (.long cb), .second, .val (.long cc), .second, .val (.double FP.dconst0), .second, .val (.double (FP.i2d xb)), .second, .val (.double (FP.i2d xc)), .second, .val (.ref a132), .val (.ref a136), .val (.ref a140), .val (.ref b144), .val (.int (0 : Int32)), .val (.double FP.dconst0), .second, .val (.double FP.dconst0), .second, .val (.double (FP.ddiv (FP.i2d xb) (FP.l2d cb))), .second, .val (.double FP.dconst0), .second, .unset, .unset, .unset, .unset, .unset, .unset, .unset, .unset]) rfl ?_
        refine g_dload C S at_256 (pc' := 258) rfl rfl ?_
        refine g_dload C S at_258 (pc' := 260) rfl rfl ?_
        refine g_dadd C S at_260 (pc' := 261) rfl (nn_of (Jvm.Free.Fl.dadd_mag (K := 1057) (Jvm.Free.Fl.Mag64.mono own_mag0 (by decide)) (Jvm.Free.Fl.Mag64.mono (ddiv_mag (K := 1056) (L := 1023) (Jvm.Free.Fl.i2d_mag _) (l2d_big (own_nz hc74)) (by decide) (by decide)) (by decide)) (by decide)) (by decide)) ?_
        refine g_dstore C S at_261 (pc' := 263) rfl (L' := #[.val (.long q1), .second, .val (.long q2), .second, .val (.long q3), .second, .val (.long q4), .second, .val (.long q5), .second, .val (.long q6), .second, .val (.long qa), .second, .val (.long qb), .second, .val (.long qc), .second, .val (.long ca), .second, .val (.long cb), .second, .val (.long cc), .second, .val (.double FP.dconst0), .second, .val (.double (FP.i2d xb)), .second, .val (.double (FP.i2d xc)), .second, .val (.ref a132), .val (.ref a136), .val (.ref a140), .val (.ref b144), .val (.int (0 : Int32)), .val (.double (FP.dadd FP.dconst0 (FP.ddiv (FP.i2d xb) (FP.l2d cb)))), .second, .val (.double FP.dconst0), .second, .val (.double (FP.ddiv (FP.i2d xb) (FP.l2d cb))), .second, .val (.double FP.dconst0), .second, .unset, .unset, .unset, .unset, .unset, .unset, .unset, .unset]) rfl ?_
        refine g_iload C S at_263 (pc' := 265) rfl rfl ?_
        refine g_iconst C S (1 : Int32) at_265 (pc' := 266) rfl rfl ?_
        refine g_iadd C S at_266 (pc' := 267) rfl ?_
        refine g_istore C S at_267 (pc' := 269) rfl (L' := #[.val (.long q1), .second, .val (.long q2), .second, .val (.long q3), .second, .val (.long q4), .second, .val (.long q5), .second, .val (.long q6), .second, .val (.long qa), .second, .val (.long qb), .second, .val (.long qc), .second, .val (.long ca), .second, .val (.long cb), .second, .val (.long cc), .second, .val (.double FP.dconst0), .second, .val (.double (FP.i2d xb)), .second, .val (.double (FP.i2d xc)), .second, .val (.ref a132), .val (.ref a136), .val (.ref a140), .val (.ref b144), .val (.int ((0 : Int32) + (1 : Int32))), .val (.double (FP.dadd FP.dconst0 (FP.ddiv (FP.i2d xb) (FP.l2d cb)))), .second, .val (.double FP.dconst0), .second, .val (.double (FP.ddiv (FP.i2d xb) (FP.l2d cb))), .second, .val (.double FP.dconst0), .second, .unset, .unset, .unset, .unset, .unset, .unset, .unset, .unset]) rfl ?_
        refine g_lload C S at_269 (pc' := 271) rfl rfl ?_
        refine g_lconst C S (0 : Int64) at_271 (pc' := 272) rfl rfl ?_
        refine g_lcmp C S at_272 (pc' := 273) rfl ?_
        refine g_lif_le C S at_273 (pc' := 297) (pf := 276) (by decide) (by decide) rfl (fun hc273 => absurd hc98 hc273) (fun hc273 => ?_)
        refine g_dload C S at_276 (pc' := 278) rfl rfl ?_
        refine g_lload C S at_278 (pc' := 280) rfl rfl ?_
        refine g_l2d C S at_280 (pc' := 281) rfl ?_
        refine g_ddiv C S at_281 (pc' := 282) rfl (nn_of (ddiv_mag (K := 1056) (L := 1023) (Jvm.Free.Fl.i2d_mag _) (l2d_big (own_nz hc98)) (by decide) (by decide)) (by decide)) ?_
        refine g_dstore C S at_282 (pc' := 284) rfl (L' := #[.val (.long q1), .second, .val (.long q2), .second, .val (.long q3), .second, .val (.long q4), .second, .val (.long q5), .second, .val (.long q6), .second, .val (.long qa), .second, .val (.long qb), .second, .val (.long qc), .second, .val (.long ca), .second, .val (.long cb), .second, .val (.long cc), .second, .val (.double FP.dconst0), .second, .val (.double (FP.i2d xb)), .second, .val (.double (FP.i2d xc)), .second, .val (.ref a132), .val (.ref a136), .val (.ref a140), .val (.ref b144), .val (.int ((0 : Int32) + (1 : Int32))), .val (.double (FP.dadd FP.dconst0 (FP.ddiv (FP.i2d xb) (FP.l2d cb)))), .second, .val (.double FP.dconst0), .second, .val (.double (FP.ddiv (FP.i2d xb) (FP.l2d cb))), .second, .val (.double (FP.ddiv (FP.i2d xc) (FP.l2d cc))), .second, .unset, .unset, .unset, .unset, .unset, .unset, .unset, .unset]) rfl ?_
        refine g_dload C S at_284 (pc' := 286) rfl rfl ?_
        refine g_dload C S at_286 (pc' := 288) rfl rfl ?_
        refine g_dadd C S at_288 (pc' := 289) rfl (nn_of (Jvm.Free.Fl.dadd_mag (K := 1059) (Jvm.Free.Fl.Mag64.mono (Jvm.Free.Fl.dadd_mag (K := 1057) (Jvm.Free.Fl.Mag64.mono own_mag0 (by decide)) (Jvm.Free.Fl.Mag64.mono (ddiv_mag (K := 1056) (L := 1023) (Jvm.Free.Fl.i2d_mag _) (l2d_big (own_nz hc74)) (by decide) (by decide)) (by decide)) (by decide)) (by decide)) (Jvm.Free.Fl.Mag64.mono (ddiv_mag (K := 1056) (L := 1023) (Jvm.Free.Fl.i2d_mag _) (l2d_big (own_nz hc98)) (by decide) (by decide)) (by decide)) (by decide)) (by decide)) ?_
        refine g_dstore C S at_289 (pc' := 291) rfl (L' := #[.val (.long q1), .second, .val (.long q2), .second, .val (.long q3), .second, .val (.long q4), .second, .val (.long q5), .second, .val (.long q6), .second, .val (.long qa), .second, .val (.long qb), .second, .val (.long qc), .second, .val (.long ca), .second, .val (.long cb), .second, .val (.long cc), .second, .val (.double FP.dconst0), .second, .val (.double (FP.i2d xb)), .second, .val (.double (FP.i2d xc)), .second, .val (.ref a132), .val (.ref a136), .val (.ref a140), .val (.ref b144), .val (.int ((0 : Int32) + (1 : Int32))), .val (.double (FP.dadd (FP.dadd FP.dconst0 (FP.ddiv (FP.i2d xb) (FP.l2d cb))) (FP.ddiv (FP.i2d xc) (FP.l2d cc)))), .second, .val (.double FP.dconst0), .second, .val (.double (FP.ddiv (FP.i2d xb) (FP.l2d cb))), .second, .val (.double (FP.ddiv (FP.i2d xc) (FP.l2d cc))), .second, .unset, .unset, .unset, .unset, .unset, .unset, .unset, .unset]) rfl ?_
        refine g_iload C S at_291 (pc' := 293) rfl rfl ?_
        refine g_iconst C S (1 : Int32) at_293 (pc' := 294) rfl rfl ?_
        refine g_iadd C S at_294 (pc' := 295) rfl ?_
        refine g_istore C S at_295 (pc' := 297) rfl (L' := #[.val (.long q1), .second, .val (.long q2), .second, .val (.long q3), .second, .val (.long q4), .second, .val (.long q5), .second, .val (.long q6), .second, .val (.long qa), .second, .val (.long qb), .second, .val (.long qc), .second, .val (.long ca), .second, .val (.long cb), .second, .val (.long cc), .second, .val (.double FP.dconst0), .second, .val (.double (FP.i2d xb)), .second, .val (.double (FP.i2d xc)), .second, .val (.ref a132), .val (.ref a136), .val (.ref a140), .val (.ref b144), .val (.int (((0 : Int32) + (1 : Int32)) + (1 : Int32))), .val (.double (FP.dadd (FP.dadd FP.dconst0 (FP.ddiv (FP.i2d xb) (FP.l2d cb))) (FP.ddiv (FP.i2d xc) (FP.l2d cc)))), .second, .val (.double FP.dconst0), .second, .val (.double (FP.ddiv (FP.i2d xb) (FP.l2d cb))), .second, .val (.double (FP.ddiv (FP.i2d xc) (FP.l2d cc))), .second, .unset, .unset, .unset, .unset, .unset, .unset, .unset, .unset]) rfl ?_
        refine g_iload C S at_297 (pc' := 299) rfl rfl ?_
        refine g_if_ne C S at_299 (pc' := 306) (pf := 302) (by decide) (by decide) rfl (fun hc299 => ?_) (fun hc299 => absurd hc299 (by decide))
        refine g_dload C S at_306 (pc' := 308) rfl rfl ?_
        refine g_iload C S at_308 (pc' := 310) rfl rfl ?_
        refine g_i2d C S at_310 (pc' := 311) rfl ?_
        refine g_ddiv C S at_311 (pc' := 312) rfl (nn_of (ddiv_mag (K := 1061) (L := 1023) (Jvm.Free.Fl.dadd_mag (K := 1059) (Jvm.Free.Fl.Mag64.mono (Jvm.Free.Fl.dadd_mag (K := 1057) (Jvm.Free.Fl.Mag64.mono own_mag0 (by decide)) (Jvm.Free.Fl.Mag64.mono (ddiv_mag (K := 1056) (L := 1023) (Jvm.Free.Fl.i2d_mag _) (l2d_big (own_nz hc74)) (by decide) (by decide)) (by decide)) (by decide)) (by decide)) (Jvm.Free.Fl.Mag64.mono (ddiv_mag (K := 1056) (L := 1023) (Jvm.Free.Fl.i2d_mag _) (l2d_big (own_nz hc98)) (by decide) (by decide)) (by decide)) (by decide)) (own_i2d (by decide)) (by decide) (by decide)) (by decide)) ?_
        refine g_dstore C S at_312 (pc' := 314) rfl (L' := #[.val (.long q1), .second, .val (.long q2), .second, .val (.long q3), .second, .val (.long q4), .second, .val (.long q5), .second, .val (.long q6), .second, .val (.long qa), .second, .val (.long qb), .second, .val (.long qc), .second, .val (.long ca), .second, .val (.long cb), .second, .val (.long cc), .second, .val (.double FP.dconst0), .second, .val (.double (FP.i2d xb)), .second, .val (.double (FP.i2d xc)), .second, .val (.ref a132), .val (.ref a136), .val (.ref a140), .val (.ref b144), .val (.int (((0 : Int32) + (1 : Int32)) + (1 : Int32))), .val (.double (FP.dadd (FP.dadd FP.dconst0 (FP.ddiv (FP.i2d xb) (FP.l2d cb))) (FP.ddiv (FP.i2d xc) (FP.l2d cc)))), .second, .val (.double FP.dconst0), .second, .val (.double (FP.ddiv (FP.i2d xb) (FP.l2d cb))), .second, .val (.double (FP.ddiv (FP.i2d xc) (FP.l2d cc))), .second, .val (.double (FP.ddiv (FP.dadd (FP.dadd FP.dconst0 (FP.ddiv (FP.i2d xb) (FP.l2d cb))) (FP.ddiv (FP.i2d xc) (FP.l2d cc))) (FP.i2d (((0 : Int32) + (1 : Int32)) + (1 : Int32))))), .second, .unset, .unset, .unset, .unset, .unset, .unset]) rfl ?_
        refine g_lload C S at_314 (pc' := 316) rfl rfl ?_
        refine g_lconst C S (0 : Int64) at_316 (pc' := 317) rfl rfl ?_
        refine g_lcmp C S at_317 (pc' := 318) rfl ?_
        refine g_lif_le C S at_318 (pc' := 326) (pf := 321) (by decide) (by decide) rfl (fun hc318 => ?_) (fun hc318 => absurd hc318 hc53)
        refine g_dload C S at_326 (pc' := 328) rfl rfl ?_
        refine g_dstore C S at_328 (pc' := 330) rfl (L' := #[.val (.long q1), .second, .val (.long q2), .second, .val (.long q3), .second, .val (.long q4), .second, .val (.long q5), .second, .val (.long q6), .second, .val (.long qa), .second, .val (.long qb), .second, .val (.long qc), .second, .val (.long ca), .second, .val (.long cb), .second, .val (.long cc), .second, .val (.double FP.dconst0), .second, .val (.double (FP.i2d xb)), .second, .val (.double (FP.i2d xc)), .second, .val (.ref a132), .val (.ref a136), .val (.ref a140), .val (.ref b144), .val (.int (((0 : Int32) + (1 : Int32)) + (1 : Int32))), .val (.double (FP.dadd (FP.dadd FP.dconst0 (FP.ddiv (FP.i2d xb) (FP.l2d cb))) (FP.ddiv (FP.i2d xc) (FP.l2d cc)))), .second, .val (.double FP.dconst0), .second, .val (.double (FP.ddiv (FP.i2d xb) (FP.l2d cb))), .second, .val (.double (FP.ddiv (FP.i2d xc) (FP.l2d cc))), .second, .val (.double (FP.ddiv (FP.dadd (FP.dadd FP.dconst0 (FP.ddiv (FP.i2d xb) (FP.l2d cb))) (FP.ddiv (FP.i2d xc) (FP.l2d cc))) (FP.i2d (((0 : Int32) + (1 : Int32)) + (1 : Int32))))), .second, .val (.double (FP.ddiv (FP.dadd (FP.dadd FP.dconst0 (FP.ddiv (FP.i2d xb) (FP.l2d cb))) (FP.ddiv (FP.i2d xc) (FP.l2d cc))) (FP.i2d (((0 : Int32) + (1 : Int32)) + (1 : Int32))))), .second, .unset, .unset, .unset, .unset]) rfl ?_
        refine g_lload C S at_330 (pc' := 332) rfl rfl ?_
        refine g_lconst C S (0 : Int64) at_332 (pc' := 333) rfl rfl ?_
        refine g_lcmp C S at_333 (pc' := 334) rfl ?_
        refine g_lif_le C S at_334 (pc' := 342) (pf := 337) (by decide) (by decide) rfl (fun hc334 => absurd hc74 hc334) (fun hc334 => ?_)
        refine g_dload C S at_337 (pc' := 339) rfl rfl ?_
        refine g_goto C S at_339 (pc' := 344) (by decide) (by decide) ?_
        refine g_dstore C S at_344 (pc' := 346) rfl (L' := #[.val (.long q1), .second, .val (.long q2), .second, .val (.long q3), .second, .val (.long q4), .second, .val (.long q5), .second, .val (.long q6), .second, .val (.long qa), .second, .val (.long qb), .second, .val (.long qc), .second, .val (.long ca), .second, .val (.long cb), .second, .val (.long cc), .second, .val (.double FP.dconst0), .second, .val (.double (FP.i2d xb)), .second, .val (.double (FP.i2d xc)), .second, .val (.ref a132), .val (.ref a136), .val (.ref a140), .val (.ref b144), .val (.int (((0 : Int32) + (1 : Int32)) + (1 : Int32))), .val (.double (FP.dadd (FP.dadd FP.dconst0 (FP.ddiv (FP.i2d xb) (FP.l2d cb))) (FP.ddiv (FP.i2d xc) (FP.l2d cc)))), .second, .val (.double FP.dconst0), .second, .val (.double (FP.ddiv (FP.i2d xb) (FP.l2d cb))), .second, .val (.double (FP.ddiv (FP.i2d xc) (FP.l2d cc))), .second, .val (.double (FP.ddiv (FP.dadd (FP.dadd FP.dconst0 (FP.ddiv (FP.i2d xb) (FP.l2d cb))) (FP.ddiv (FP.i2d xc) (FP.l2d cc))) (FP.i2d (((0 : Int32) + (1 : Int32)) + (1 : Int32))))), .second, .val (.double (FP.ddiv (FP.dadd (FP.dadd FP.dconst0 (FP.ddiv (FP.i2d xb) (FP.l2d cb))) (FP.ddiv (FP.i2d xc) (FP.l2d cc))) (FP.i2d (((0 : Int32) + (1 : Int32)) + (1 : Int32))))), .second, .val (.double (FP.ddiv (FP.i2d xb) (FP.l2d cb))), .second, .unset, .unset]) rfl ?_
        refine g_lload C S at_346 (pc' := 348) rfl rfl ?_
        refine g_lconst C S (0 : Int64) at_348 (pc' := 349) rfl rfl ?_
        refine g_lcmp C S at_349 (pc' := 350) rfl ?_
        refine g_lif_le C S at_350 (pc' := 358) (pf := 353) (by decide) (by decide) rfl (fun hc350 => absurd hc98 hc350) (fun hc350 => ?_)
        refine g_dload C S at_353 (pc' := 355) rfl rfl ?_
        refine g_goto C S at_355 (pc' := 360) (by decide) (by decide) ?_
        refine g_dstore C S at_360 (pc' := 362) rfl (L' := #[.val (.long q1), .second, .val (.long q2), .second, .val (.long q3), .second, .val (.long q4), .second, .val (.long q5), .second, .val (.long q6), .second, .val (.long qa), .second, .val (.long qb), .second, .val (.long qc), .second, .val (.long ca), .second, .val (.long cb), .second, .val (.long cc), .second, .val (.double FP.dconst0), .second, .val (.double (FP.i2d xb)), .second, .val (.double (FP.i2d xc)), .second, .val (.ref a132), .val (.ref a136), .val (.ref a140), .val (.ref b144), .val (.int (((0 : Int32) + (1 : Int32)) + (1 : Int32))), .val (.double (FP.dadd (FP.dadd FP.dconst0 (FP.ddiv (FP.i2d xb) (FP.l2d cb))) (FP.ddiv (FP.i2d xc) (FP.l2d cc)))), .second, .val (.double FP.dconst0), .second, .val (.double (FP.ddiv (FP.i2d xb) (FP.l2d cb))), .second, .val (.double (FP.ddiv (FP.i2d xc) (FP.l2d cc))), .second, .val (.double (FP.ddiv (FP.dadd (FP.dadd FP.dconst0 (FP.ddiv (FP.i2d xb) (FP.l2d cb))) (FP.ddiv (FP.i2d xc) (FP.l2d cc))) (FP.i2d (((0 : Int32) + (1 : Int32)) + (1 : Int32))))), .second, .val (.double (FP.ddiv (FP.dadd (FP.dadd FP.dconst0 (FP.ddiv (FP.i2d xb) (FP.l2d cb))) (FP.ddiv (FP.i2d xc) (FP.l2d cc))) (FP.i2d (((0 : Int32) + (1 : Int32)) + (1 : Int32))))), .second, .val (.double (FP.ddiv (FP.i2d xb) (FP.l2d cb))), .second, .val (.double (FP.ddiv (FP.i2d xc) (FP.l2d cc))), .second]) rfl ?_
        refine g_aload C S at_362 (pc' := 364) rfl rfl rfl ?_
        refine g_iconst C S (0 : Int32) at_364 (pc' := 365) rfl rfl ?_
        refine g_daload C S (i := 0) (v := (.double (FP.dmul (FP.l2d qa) (FP.ddiv (FP.dadd (FP.dadd FP.dconst0 (FP.ddiv (FP.i2d xb) (FP.l2d cb))) (FP.ddiv (FP.i2d xc) (FP.l2d cc))) (FP.i2d (((0 : Int32) + (1 : Int32)) + (1 : Int32))))))) at_365 A_b144 (by decide) (by decide) hw0 (pc' := 366) rfl ?_
        refine g_lload C S at_366 (pc' := 368) rfl rfl ?_
        refine g_l2d C S at_368 (pc' := 369) rfl ?_
        refine g_dload C S at_369 (pc' := 371) rfl rfl ?_
        refine g_dmul C S at_371 (pc' := 372) rfl (nn_of (Jvm.Free.Fl.dmul_mag (Ka := 1088) (Kb := 1062) (Jvm.Free.Fl.l2d_mag _) (ddiv_mag (K := 1061) (L := 1023) (Jvm.Free.Fl.dadd_mag (K := 1059) (Jvm.Free.Fl.Mag64.mono (Jvm.Free.Fl.dadd_mag (K := 1057) (Jvm.Free.Fl.Mag64.mono own_mag0 (by decide)) (Jvm.Free.Fl.Mag64.mono (ddiv_mag (K := 1056) (L := 1023) (Jvm.Free.Fl.i2d_mag _) (l2d_big (own_nz hc74)) (by decide) (by decide)) (by decide)) (by decide)) (by decide)) (Jvm.Free.Fl.Mag64.mono (ddiv_mag (K := 1056) (L := 1023) (Jvm.Free.Fl.i2d_mag _) (l2d_big (own_nz hc98)) (by decide) (by decide)) (by decide)) (by decide)) (own_i2d (by decide)) (by decide) (by decide)) (by decide) (by decide)) (by decide)) ?_
        refine g_dcmp C S at_372 (v := 0) (pc' := 373) rfl (dcmpV_self (nn_of (Jvm.Free.Fl.dmul_mag (Ka := 1088) (Kb := 1062) (Jvm.Free.Fl.l2d_mag _) (ddiv_mag (K := 1061) (L := 1023) (Jvm.Free.Fl.dadd_mag (K := 1059) (Jvm.Free.Fl.Mag64.mono (Jvm.Free.Fl.dadd_mag (K := 1057) (Jvm.Free.Fl.Mag64.mono own_mag0 (by decide)) (Jvm.Free.Fl.Mag64.mono (ddiv_mag (K := 1056) (L := 1023) (Jvm.Free.Fl.i2d_mag _) (l2d_big (own_nz hc74)) (by decide) (by decide)) (by decide)) (by decide)) (by decide)) (Jvm.Free.Fl.Mag64.mono (ddiv_mag (K := 1056) (L := 1023) (Jvm.Free.Fl.i2d_mag _) (l2d_big (own_nz hc98)) (by decide) (by decide)) (by decide)) (by decide)) (own_i2d (by decide)) (by decide) (by decide)) (by decide) (by decide)) (by decide)) _) ?_
        refine g_if_ne C S at_373 (pc' := 408) (pf := 376) (by decide) (by decide) rfl (fun hc373 => absurd rfl hc373) (fun hc373 => ?_)
        refine g_aload C S at_376 (pc' := 378) rfl rfl rfl ?_
        refine g_iconst C S (1 : Int32) at_378 (pc' := 379) rfl rfl ?_
        refine g_daload C S (i := 1) (v := (.double (FP.dmul (FP.l2d qb) (FP.ddiv (FP.i2d xb) (FP.l2d cb))))) at_379 A_b144 (by decide) (by decide) hw1 (pc' := 380) rfl ?_
        refine g_lload C S at_380 (pc' := 382) rfl rfl ?_
        refine g_l2d C S at_382 (pc' := 383) rfl ?_
        refine g_dload C S at_383 (pc' := 385) rfl rfl ?_
        refine g_dmul C S at_385 (pc' := 386) rfl (nn_of (Jvm.Free.Fl.dmul_mag (Ka := 1088) (Kb := 1057) (Jvm.Free.Fl.l2d_mag _) (ddiv_mag (K := 1056) (L := 1023) (Jvm.Free.Fl.i2d_mag _) (l2d_big (own_nz hc74)) (by decide) (by decide)) (by decide) (by decide)) (by decide)) ?_
        refine g_dcmp C S at_386 (v := 0) (pc' := 387) rfl (dcmpV_self (nn_of (Jvm.Free.Fl.dmul_mag (Ka := 1088) (Kb := 1057) (Jvm.Free.Fl.l2d_mag _) (ddiv_mag (K := 1056) (L := 1023) (Jvm.Free.Fl.i2d_mag _) (l2d_big (own_nz hc74)) (by decide) (by decide)) (by decide) (by decide)) (by decide)) _) ?_
        refine g_if_ne C S at_387 (pc' := 408) (pf := 390) (by decide) (by decide) rfl (fun hc387 => absurd rfl hc387) (fun hc387 => ?_)
        refine g_aload C S at_390 (pc' := 392) rfl rfl rfl ?_
        refine g_iconst C S (2 : Int32) at_392 (pc' := 393) rfl rfl ?_
        refine g_daload C S (i := 2) (v := (.double (FP.dmul (FP.l2d qc) (FP.ddiv (FP.i2d xc) (FP.l2d cc))))) at_393 A_b144 (by decide) (by decide) hw2 (pc' := 394) rfl ?_
        refine g_lload C S at_394 (pc' := 396) rfl rfl ?_
        refine g_l2d C S at_396 (pc' := 397) rfl ?_
        refine g_dload C S at_397 (pc' := 399) rfl rfl ?_
        refine g_dmul C S at_399 (pc' := 400) rfl (nn_of (Jvm.Free.Fl.dmul_mag (Ka := 1088) (Kb := 1057) (Jvm.Free.Fl.l2d_mag _) (ddiv_mag (K := 1056) (L := 1023) (Jvm.Free.Fl.i2d_mag _) (l2d_big (own_nz hc98)) (by decide) (by decide)) (by decide) (by decide)) (by decide)) ?_
        refine g_dcmp C S at_400 (v := 0) (pc' := 401) rfl (dcmpV_self (nn_of (Jvm.Free.Fl.dmul_mag (Ka := 1088) (Kb := 1057) (Jvm.Free.Fl.l2d_mag _) (ddiv_mag (K := 1056) (L := 1023) (Jvm.Free.Fl.i2d_mag _) (l2d_big (own_nz hc98)) (by decide) (by decide)) (by decide) (by decide)) (by decide)) _) ?_
        refine g_if_ne C S at_401 (pc' := 408) (pf := 404) (by decide) (by decide) rfl (fun hc401 => absurd rfl hc401) (fun hc401 => ?_)
        refine g_iconst C S (1 : Int32) at_404 (pc' := 405) rfl rfl ?_
        refine g_goto C S at_405 (pc' := 409) (by decide) (by decide) ?_
        exact g_retZ C S at_409 (by decide) (by decide) (by decide) (rfl)
  · refine g_lload C S at_56 (pc' := 58) rfl rfl ?_
    refine g_ldc2 C S at_58 (hw _ (List.mem_of_getElem? (i := 2) rfl)) (pc' := 61) rfl ?_
    refine g_land C S at_61 (pc' := 62) rfl ?_
    refine g_l2i C S at_62 (pc' := 63) rfl ?_
    obtain ⟨xa, e_xa⟩ : ∃ z, z = ((q6 &&& (65535 : Int64)).toInt32) := ⟨_, rfl⟩
    rw [← e_xa]
    refine g_i2d C S at_63 (pc' := 64) rfl ?_
    refine g_goto C S at_64 (pc' := 68) (by decide) (by decide) ?_
    refine g_dstore C S at_68 (pc' := 70) rfl (L' := #[.val (.long q1), .second, .val (.long q2), .second, .val (.long q3), .second, .val (.long q4), .second, .val (.long q5), .second, .val (.long q6), .second, .val (.long qa), .second, .val (.long qb), .second, .val (.long qc), .second, .val (.long ca), .second, .val (.long cb), .second, .val (.long cc), .second, .val (.double (FP.i2d xa)), .second, .unset, .unset, .unset, .unset, .unset, .unset, .unset, .unset, .unset, .unset, .unset, .unset, .unset, .unset, .unset, .unset, .unset, .unset, .unset, .unset, .unset, .unset, .unset, .unset, .unset]) rfl ?_
    refine g_lload C S at_70 (pc' := 72) rfl rfl ?_
    refine g_lconst C S (0 : Int64) at_72 (pc' := 73) rfl rfl ?_
    refine g_lcmp C S at_73 (pc' := 74) rfl ?_
    refine g_lif_le C S at_74 (pc' := 91) (pf := 77) (by decide) (by decide) rfl (fun hc74 => ?_) (fun hc74 => ?_)
    · refine g_dconst0 C S at_91 (pc' := 92) rfl ?_
      refine g_dstore C S at_92 (pc' := 94) rfl (L' := #[.val (.long q1), .second, .val (.long q2), .second, .val (.long q3), .second, .val (.long q4), .second, .val (.long q5), .second, .val (.long q6), .second, .val (.long qa), .second, .val (.long qb), .second, .val (.long qc), .second, .val (.long ca), .second, .val (.long cb), .second, .val (.long cc), .second, .val (.double (FP.i2d xa)), .second, .val (.double FP.dconst0), .second, .unset, .unset, .unset, .unset, .unset, .unset, .unset, .unset, .unset, .unset, .unset, .unset, .unset, .unset, .unset, .unset, .unset, .unset, .unset, .unset, .unset, .unset, .unset]) rfl ?_
      refine g_lload C S at_94 (pc' := 96) rfl rfl ?_
      refine g_lconst C S (0 : Int64) at_96 (pc' := 97) rfl rfl ?_
      refine g_lcmp C S at_97 (pc' := 98) rfl ?_
      refine g_lif_le C S at_98 (pc' := 115) (pf := 101) (by decide) (by decide) rfl (fun hc98 => ?_) (fun hc98 => ?_)
      · refine g_dconst0 C S at_115 (pc' := 116) rfl ?_
        refine g_dstore C S at_116 (pc' := 118) rfl (L' := #[.val (.long q1), .second, .val (.long q2), .second, .val (.long q3), .second, .val (.long q4), .second, .val (.long q5), .second, .val (.long q6), .second, .val (.long qa), .second, .val (.long qb), .second, .val (.long qc), .second, .val (.long ca), .second, .val (.long cb), .second, .val (.long cc), .second, .val (.double (FP.i2d xa)), .second, .val (.double FP.dconst0), .second, .val (.double FP.dconst0), .second, .unset, .unset, .unset, .unset, .unset, .unset, .unset, .unset, .unset, .unset, .unset, .unset, .unset, .unset, .unset, .unset, .unset, .unset, .unset, .unset, .unset]) rfl ?_
        refine g_iconst C S (3 : Int32) at_118 (pc' := 119) rfl rfl ?_
        refine g_newarray C S (N := 3) (cap := 3) at_119 (hw _ (List.mem_of_getElem? (i := 3) rfl)) (by decide) (by decide) (by decide) (by decide) (by decide) (pc' := 121) rfl (fun T145 h145 a145 S g145 E145 A_a145 => ?_)
        have ge_a145 : n0 ≤ a145 := ge_of g145 Zn
        have Zn := Nat.le_trans Zn E145.1
        have A_a145 : Ary Z h145 a145 .long 3 (fun _ => (.long (0 : Int64))) := A_a145
        refine g_dup C S at_121 (pc' := 122) rfl rfl ?_
        refine g_iconst C S (0 : Int32) at_122 (pc' := 123) rfl rfl ?_
        refine g_lload C S at_123 (pc' := 125) rfl rfl ?_
        refine g_lastore C S (i := 0) at_125 A_a145 (by decide) (by decide) ge_a145 (pc' := 126) rfl (fun T146 h146 S W146 B146 => ?_)
        have Zn := Nat.le_trans Zn (Nat.le_of_eq W146.size.symm)
        have A_a145 := B146
        refine g_dup C S at_126 (pc' := 127) rfl rfl ?_
        refine g_iconst C S (1 : Int32) at_127 (pc' := 128) rfl rfl ?_
        refine g_lload C S at_128 (pc' := 130) rfl rfl ?_
        refine g_lastore C S (i := 1) at_130 A_a145 (by decide) (by decide) ge_a145 (pc' := 131) rfl (fun T147 h147 S W147 B147 => ?_)
        have Zn := Nat.le_trans Zn (Nat.le_of_eq W147.size.symm)
        have A_a145 := B147
        refine g_dup C S at_131 (pc' := 132) rfl rfl ?_
        refine g_iconst C S (2 : Int32) at_132 (pc' := 133) rfl rfl ?_
        refine g_lload C S at_133 (pc' := 135) rfl rfl ?_
        refine g_lastore C S (i := 2) at_135 A_a145 (by decide) (by decide) ge_a145 (pc' := 136) rfl (fun T148 h148 S W148 B148 => ?_)
        have Zn := Nat.le_trans Zn (Nat.le_of_eq W148.size.symm)
        have A_a145 := B148
        refine g_astore C S at_136 (pc' := 138) rfl rfl (L' := #[.val (.long q1), .second, .val (.long q2), .second, .val (.long q3), .second, .val (.long q4), .second, .val (.long q5), .second, .val (.long q6), .second, .val (.long qa), .second, .val (.long qb), .second, .val (.long qc), .second, .val (.long ca), .second, .val (.long cb), .second, .val (.long cc), .second, .val (.double (FP.i2d xa)), .second, .val (.double FP.dconst0), .second, .val (.double FP.dconst0), .second, .val (.ref a145), .unset, .unset, .unset, .unset, .unset, .unset, .unset, .unset, .unset, .unset, .unset, .unset, .unset, .unset, .unset, .unset, .unset, .unset, .unset, .unset]) rfl ?_
        refine g_iconst C S (3 : Int32) at_138 (pc' := 139) rfl rfl ?_
        refine g_newarray C S (N := 3) (cap := 3) at_139 (hw _ (List.mem_of_getElem? (i := 3) rfl)) (by decide) (by decide) (by decide) (by decide) (by decide) (pc' := 141) rfl (fun T149 h149 a149 S g149 E149 A_a149 => ?_)
        have ne_a145_a149 : a145 ≠ a149 := ne_new g149 A_a145.lt
        have ge_a149 : n0 ≤ a149 := ge_of g149 Zn
        have Zn := Nat.le_trans Zn E149.1
        have A_a145 := A_a145.ext E149
        have A_a149 : Ary Z h149 a149 .long 3 (fun _ => (.long (0 : Int64))) := A_a149
        refine g_dup C S at_141 (pc' := 142) rfl rfl ?_
        refine g_iconst C S (0 : Int32) at_142 (pc' := 143) rfl rfl ?_
        refine g_lload C S at_143 (pc' := 145) rfl rfl ?_
        refine g_lastore C S (i := 0) at_145 A_a149 (by decide) (by decide) ge_a149 (pc' := 146) rfl (fun T150 h150 S W150 B150 => ?_)
        have Zn := Nat.le_trans Zn (Nat.le_of_eq W150.size.symm)
        have A_a145 := A_a145.other W150 ne_a145_a149
        have A_a149 := B150
        refine g_dup C S at_146 (pc' := 147) rfl rfl ?_
        refine g_iconst C S (1 : Int32) at_147 (pc' := 148) rfl rfl ?_
        refine g_lload C S at_148 (pc' := 150) rfl rfl ?_
        refine g_lastore C S (i := 1) at_150 A_a149 (by decide) (by decide) ge_a149 (pc' := 151) rfl (fun T151 h151 S W151 B151 => ?_)
        have Zn := Nat.le_trans Zn (Nat.le_of_eq W151.size.symm)
        have A_a145 := A_a145.other W151 ne_a145_a149
        have A_a149 := B151
        refine g_dup C S at_151 (pc' := 152) rfl rfl ?_
        refine g_iconst C S (2 : Int32) at_152 (pc' := 153) rfl rfl ?_
        refine g_lload C S at_153 (pc' := 155) rfl rfl ?_
        refine g_lastore C S (i := 2) at_155 A_a149 (by decide) (by decide) ge_a149 (pc' := 156) rfl (fun T152 h152 S W152 B152 => ?_)
        have Zn := Nat.le_trans Zn (Nat.le_of_eq W152.size.symm)
        have A_a145 := A_a145.other W152 ne_a145_a149
        have A_a149 := B152
        refine g_astore C S at_156 (pc' := 158) rfl rfl (L' := #[.val (.long q1), .second, .val (.long q2), .second, .val (.long q3), .second, .val (.long q4), .second, .val (.long q5), .second, .val (.long q6), .second, .val (.long qa), .second, .val (.long qb), .second, .val (.long qc), .second, .val (.long ca), .second, .val (.long cb), .second, .val (.long cc), .second, .val (.double (FP.i2d xa)), .second, .val (.double FP.dconst0), .second, .val (.double FP.dconst0), .second, .val (.ref a145), .val (.ref a149), .unset, .unset, .unset, .unset, .unset, .unset, .unset, .unset, .unset, .unset, .unset, .unset, .unset, .unset, .unset, .unset, .unset, .unset, .unset]) rfl ?_
        refine g_iconst C S (3 : Int32) at_158 (pc' := 159) rfl rfl ?_
        refine g_newarray C S (N := 3) (cap := 3) at_159 (hw _ (List.mem_of_getElem? (i := 4) rfl)) (by decide) (by decide) (by decide) (by decide) (by decide) (pc' := 161) rfl (fun T153 h153 a153 S g153 E153 A_a153 => ?_)
        have ne_a145_a153 : a145 ≠ a153 := ne_new g153 A_a145.lt
        have ne_a149_a153 : a149 ≠ a153 := ne_new g153 A_a149.lt
        have ge_a153 : n0 ≤ a153 := ge_of g153 Zn
        have Zn := Nat.le_trans Zn E153.1
        have A_a145 := A_a145.ext E153
        have A_a149 := A_a149.ext E153
        have A_a153 : Ary Z h153 a153 .double 3 (fun _ => (.double 0)) := A_a153
        refine g_dup C S at_161 (pc' := 162) rfl rfl ?_
        refine g_iconst C S (0 : Int32) at_162 (pc' := 163) rfl rfl ?_
        refine g_dload C S at_163 (pc' := 165) rfl rfl ?_
        refine g_dastore C S (i := 0) at_165 A_a153 (by decide) (by decide) ge_a153 (pc' := 166) rfl (fun T154 h154 S W154 B154 => ?_)
        have Zn := Nat.le_trans Zn (Nat.le_of_eq W154.size.symm)
        have A_a145 := A_a145.other W154 ne_a145_a153
        have A_a149 := A_a149.other W154 ne_a149_a153
        have A_a153 := B154
        refine g_dup C S at_166 (pc' := 167) rfl rfl ?_
        refine g_iconst C S (1 : Int32) at_167 (pc' := 168) rfl rfl ?_
        refine g_dload C S at_168 (pc' := 170) rfl rfl ?_
        refine g_dastore C S (i := 1) at_170 A_a153 (by decide) (by decide) ge_a153 (pc' := 171) rfl (fun T155 h155 S W155 B155 => ?_)
        have Zn := Nat.le_trans Zn (Nat.le_of_eq W155.size.symm)
        have A_a145 := A_a145.other W155 ne_a145_a153
        have A_a149 := A_a149.other W155 ne_a149_a153
        have A_a153 := B155
        refine g_dup C S at_171 (pc' := 172) rfl rfl ?_
        refine g_iconst C S (2 : Int32) at_172 (pc' := 173) rfl rfl ?_
        refine g_dload C S at_173 (pc' := 175) rfl rfl ?_
        refine g_dastore C S (i := 2) at_175 A_a153 (by decide) (by decide) ge_a153 (pc' := 176) rfl (fun T156 h156 S W156 B156 => ?_)
        have Zn := Nat.le_trans Zn (Nat.le_of_eq W156.size.symm)
        have A_a145 := A_a145.other W156 ne_a145_a153
        have A_a149 := A_a149.other W156 ne_a149_a153
        have A_a153 := B156
        refine g_astore C S at_176 (pc' := 178) rfl rfl (L' := #[.val (.long q1), .second, .val (.long q2), .second, .val (.long q3), .second, .val (.long q4), .second, .val (.long q5), .second, .val (.long q6), .second, .val (.long qa), .second, .val (.long qb), .second, .val (.long qc), .second, .val (.long ca), .second, .val (.long cb), .second, .val (.long cc), .second, .val (.double (FP.i2d xa)), .second, .val (.double FP.dconst0), .second, .val (.double FP.dconst0), .second, .val (.ref a145), .val (.ref a149), .val (.ref a153), .unset, .unset, .unset, .unset, .unset, .unset, .unset, .unset, .unset, .unset, .unset, .unset, .unset, .unset, .unset, .unset, .unset, .unset]) rfl ?_
        refine g_aload C S at_178 (pc' := 180) rfl rfl rfl ?_
        refine g_aload C S at_180 (pc' := 182) rfl rfl rfl ?_
        refine g_aload C S at_182 (pc' := 184) rfl rfl rfl ?_
        refine g_callS C S (rm := ({ frames := 1, cells := 2, slots := 6, locals := 20 } : Room)) (W := 0) at_184 (hw _ (List.mem_of_getElem? (i := 5) rfl)) (hw _ (List.mem_of_getElem? (i := 6) rfl)) (hw _ (List.mem_of_getElem? (i := 7) rfl)) (hw _ (List.mem_of_getElem? (i := 8) rfl)) (by decide) (c_wt100 l Z a0 hw a145 a149 a153 h156 n0 ca cb cc (FP.i2d xa) FP.dconst0 FP.dconst0 _ _ (Jvm.Free.Fl.i2d_mag _) own_mag0 own_mag0 rfl rfl rfl rfl rfl rfl qa qb qc _ rfl rfl rfl hc53 hc74 hc98 Zn A_a145 A_a149 A_a153) (argsL := [(.ref a145), (.ref a149), (.ref a153)]) (r := []) rfl (lenOf pd_1 rfl) rfl (Nat.le_of_eq rfl) (by decide) (by decide) (by decide) (by decide) (pc' := 187) rfl (fun T157 h157 v157 q157 S => ?_)
        obtain ⟨b157, fw, rfl, ge_b157, sz_b157, A_b157, hw0, hw1, hw2⟩ := q157
        show Gl p e below s _ n0 _ T157 (mkF m 187 #[.val (.long q1), .second, .val (.long q2), .second, .val (.long q3), .second, .val (.long q4), .second, .val (.long q5), .second, .val (.long q6), .second, .val (.long qa), .second, .val (.long qb), .second, .val (.long qc), .second, .val (.long ca), .second, .val (.long cb), .second, .val (.long cc), .second, .val (.double (FP.i2d xa)), .second, .val (.double FP.dconst0), .second, .val (.double FP.dconst0), .second, .val (.ref a145), .val (.ref a149), .val (.ref a153), .unset, .unset, .unset, .unset, .unset, .unset, .unset, .unset, .unset, .unset, .unset, .unset, .unset, .unset, .unset, .unset, .unset, .unset] [(.ref b157)])
        refine g_astore C S at_187 (pc' := 189) rfl rfl (L' := #[.val (.long q1), .second, .val (.long q2), .second, .val (.long q3), .second, .val (.long q4), .second, .val (.long q5), .second, .val (.long q6), .second, .val (.long qa), .second, .val (.long qb), .second, .val (.long qc), .second, .val (.long ca), .second, .val (.long cb), .second, .val (.long cc), .second, .val (.double (FP.i2d xa)), .second, .val (.double FP.dconst0), .second, .val (.double FP.dconst0), .second, .val (.ref a145), .val (.ref a149), .val (.ref a153), .val (.ref b157), .unset, .unset, .unset, .unset, .unset, .unset, .unset, .unset, .unset, .unset, .unset, .unset, .unset, .unset, .unset, .unset, .unset]) rfl ?_
        refine g_aload C S at_189 (pc' := 191) rfl rfl rfl ?_
        refine g_arraylength C S (x := (3 : Int32)) at_191 A_b157 (by decide) (pc' := 192) rfl ?_
        refine g_iconst C S (3 : Int32) at_192 (pc' := 193) rfl rfl ?_
        refine g_icmp_eq C S at_193 (pc' := 198) (pf := 196) (by decide) (by decide) rfl (fun hc193 => ?_) (fun hc193 => absurd rfl hc193)
        refine g_iconst C S (0 : Int32) at_198 (pc' := 199) rfl rfl ?_
        refine g_istore C S at_199 (pc' := 201) rfl (L' := #[.val (.long q1), .second, .val (.long q2), .second, .val (.long q3), .second, .val (.long q4), .second, .val (.long q5), .second, .val (.long q6), .second, .val (.long qa), .second, .val (.long qb), .second, .val (.long qc), .second, .val (.long ca), .second, .val (.long cb), .second, .val (.long cc), .second, .val (.double (FP.i2d xa)), .second, .val (.double FP.dconst0), .second, .val (.double FP.dconst0), .second, .val (.ref a145), .val (.ref a149), .val (.ref a153), .val (.ref b157), .val (.int (0 : Int32)), .unset, .unset, .unset, .unset, .unset, .unset, .unset, .unset, .unset, .unset, .unset, .unset, .unset, .unset, .unset, .unset]) rfl ?_
        refine g_dconst0 C S at_201 (pc' := 202) rfl ?_
        refine g_dstore C S at_202 (pc' := 204) rfl (L' := #[.val (.long q1), .second, .val (.long q2), .second, .val (.long q3), .second, .val (.long q4), .second, .val (.long q5), .second, .val (.long q6), .second, .val (.long qa), .second, .val (.long qb), .second, .val (.long qc), .second, .val (.long ca), .second, .val (.long cb), .second, .val (.long cc), .second, .val (.double (FP.i2d xa)), .second, .val (.double FP.dconst0), .second, .val (.double FP.dconst0), .second, .val (.ref a145), .val (.ref a149), .val (.ref a153), .val (.ref b157), .val (.int (0 : Int32)), .val (.double FP.dconst0), .second, .unset, .unset, .unset, .unset, .unset, .unset, .unset, .unset, .unset, .unset, .unset, .unset, .unset, .unset]) rfl ?_
        refine g_dconst0 C S at_204 (pc' := 205) rfl ?_
        refine g_dstore C S at_205 (pc' := 207) rfl (L' := #[.val (.long q1), .second, .val (.long q2), .second, .val (.long q3), .second, .val (.long q4), .second, .val (.long q5), .second, .val (.long q6), .second, .val (.long qa), .second, .val (.long qb), .second, .val (.long qc), .second, .val (.long ca), .second, .val (.long cb), .second, .val (.long cc), .second, .val (.double (FP.i2d xa)), .second, .val (.double FP.dconst0), .second, .val (.double FP.dconst0), .second, .val (.ref a145), .val (.ref a149), .val (.ref a153), .val (.ref b157), .val (.int (0 : Int32)), .val (.double FP.dconst0), .second, .val (.double FP.dconst0), .second, .unset, .unset, .unset, .unset, .unset, .unset, .unset, .unset, .unset, .unset, .unset, .unset]) rfl ?_
        refine g_dconst0 C S at_207 (pc' := 208) rfl ?_
        refine g_dstore C S at_208 (pc' := 210) rfl (L' := #[.val (.long q1), .second, .val (.long q2), .second, .val (.long q3), .second, .val (.long q4), .second, .val (.long q5), .second, .val (.long q6), .second, .val (.long qa), .second, .val (.long qb), .second, .val (.long qc), .second, .val (.long ca), .second, .val (.long cb), .second, .val (.long cc), .second, .val (.double (FP.i2d xa)), .second, .val (.double FP.dconst0), .second, .val (.double FP.dconst0), .second, .val (.ref a145), .val (.ref a149), .val (.ref a153), .val (.ref b157), .val (.int (0 : Int32)), .val (.double FP.dconst0), .second, .val (.double FP.dconst0), .second, .val (.double FP.dconst0), .second, .unset, .unset, .unset, .unset, .unset, .unset, .unset, .unset, .unset, .unset]) rfl ?_
        refine g_dconst0 C S at_210 (pc' := 211) rfl ?_
        refine g_dstore C S at_211 (pc' := 213) rfl (L' := #[.val (.long q1), .second, .val (.long q2), .second, .val (.long q3), .second, .val (.long q4), .second, .val (.long q5), .second, .val (.long q6), .second, .val (.long qa), .second, .val (.long qb), .second, .val (.long qc), .second, .val (.long ca), .second, .val (.long cb), .second, .val (.long cc), .second, .val (.double (FP.i2d xa)), .second, .val (.double FP.dconst0), .second, .val (.double FP.dconst0), .second, .val (.ref a145), .val (.ref a149), .val (.ref a153), .val (.ref b157), .val (.int (0 : Int32)), .val (.double FP.dconst0), .second, .val (.double FP.dconst0), .second, .val (.double FP.dconst0), .second, .val (.double FP.dconst0), .second, .unset, .unset, .unset, .unset, .unset, .unset, .unset, .unset]) rfl ?_
        refine g_lload C S at_213 (pc' := 215) rfl rfl ?_
        refine g_lconst C S (0 : Int64) at_215 (pc' := 216) rfl rfl ?_
        refine g_lcmp C S at_216 (pc' := 217) rfl ?_
        refine g_lif_le C S at_217 (pc' := 241) (pf := 220) (by decide) (by decide) rfl (fun hc217 => absurd hc53 hc217) (fun hc217 => ?_)
        refine g_dload C S at_220 (pc' := 222) rfl rfl ?_
        refine g_lload C S at_222 (pc' := 224) rfl rfl ?_
        refine g_l2d C S at_224 (pc' := 225) rfl ?_
        refine g_ddiv C S at_225 (pc' := 226) rfl (nn_of (ddiv_mag (K := 1056) (L := 1023) (Jvm.Free.Fl.i2d_mag _) (l2d_big (own_nz hc53)) (by decide) (by decide)) (by decide)) ?_
        refine g_dstore C S at_226 (pc' := 228) rfl (L' := #[.val (.long q1), .second, .val (.long q2), .second, .val (.long q3), .second, .val (.long q4), .second, .val (.long q5), .second, .val (.long q6), .second, .val (.long qa), .second, .val (.long qb), .second, .val (.long qc), .second, .val (.long ca), .second, .val (.long cb), .second, .val (.long cc), .second, .val (.double (FP.i2d xa)), .second, .val (.double FP.dconst0), .second, .val (.double FP.dconst0), .second, .val (.ref a145), .val (.ref a149), .val (.ref a153), .val (.ref b157), .val (.int (0 : Int32)), .val (.double FP.dconst0), .second, .val (.double (FP.ddiv (FP.i2d xa) (FP.l2d ca))), .second, .val (.double FP.dconst0), .second, .val (.double FP.dconst0), .second, .unset, .unset, .unset, .unset, .unset, .unset, .unset, .unset]) rfl ?_
        refine g_dload C S at_228 (pc' := 230) rfl rfl ?_
        refine g_dload C S at_230 (pc' := 232) rfl rfl ?_
        refine g_dadd C S at_232 (pc' := 233) rfl (nn_of (Jvm.Free.Fl.dadd_mag (K := 1057) (Jvm.Free.Fl.Mag64.mono own_mag0 (by decide)) (Jvm.Free.Fl.Mag64.mono (ddiv_mag (K := 1056) (L := 1023) (Jvm.Free.Fl.i2d_mag _) (l2d_big (own_nz hc53)) (by decide) (by decide)) (by decide)) (by decide)) (by decide)) ?_
        refine g_dstore C S at_233 (pc' := 235) rfl (L' := #[.val (.long q1), .second, .val (.long q2), .second, .val (.long q3), .second, .val (.long q4), .second, .val (.long q5), .second, .val (.long q6), .second, .val (.long qa), .second, .val (.long qb), .second, .val (.long qc), .second, .val (.long ca), .second, .val (.long cb), .second, .val (.long cc), .second, .val (.double (FP.i2d xa)), .second, .val (.double FP.dconst0), .second, .val (.double FP.dconst0), .second, .val (.ref a145), .val (.ref a149), .val (.ref a153), .val (.ref b157), .val (.int (0 : Int32)), .val (.double (FP.dadd FP.dconst0 (FP.ddiv (FP.i2d xa) (FP.l2d ca)))), .second, .val (.double (FP.ddiv (FP.i2d xa) (FP.l2d ca))), .second, .val (.double FP.dconst0), .second, .val (.double FP.dconst0), .second, .unset, .unset, .unset, .unset, .unset, .unset, .unset, .unset]) rfl ?_
        refine g_iload C S at_235 (pc' := 237) rfl rfl ?_
        refine g_iconst C S (1 : Int32) at_237 (pc' := 238) rfl rfl ?_
        refine g_iadd C S at_238 (pc' := 239) rfl ?_
        refine g_istore C S at_239 (pc' := 241) rfl (L' := #[.val (.long q1), .second, .val (.long q2), .second, .val (.long q3), .second, .val (.long q4), .second, .val (.long q5), .second, .val (.long q6), .second, .val (.long qa), .second, .val (.long qb), .second, .val (.long qc), .second, .val (.long ca), .second, .val (.long cb), .second, .val (.long cc), .second, .val (.double (FP.i2d xa)), .second, .val (.double FP.dconst0), .second, .val (.double FP.dconst0), .second, .val (.ref a145), .val (.ref a149), .val (.ref a153), .val (.ref b157), .val (.int ((0 : Int32) + (1 : Int32))), .val (.double (FP.dadd FP.dconst0 (FP.ddiv (FP.i2d xa) (FP.l2d ca)))), .second, .val (.double (FP.ddiv (FP.i2d xa) (FP.l2d ca))), .second, .val (.double FP.dconst0), .second, .val (.double FP.dconst0), .second, .unset, .unset, .unset, .unset, .unset, .unset, .unset, .unset]) rfl ?_
        refine g_lload C S at_241 (pc' := 243) rfl rfl ?_
        refine g_lconst C S (0 : Int64) at_243 (pc' := 244) rfl rfl ?_
        refine g_lcmp C S at_244 (pc' := 245) rfl ?_
        refine g_lif_le C S at_245 (pc' := 269) (pf := 248) (by decide) (by decide) rfl (fun hc245 => ?_) (fun hc245 => absurd hc245 hc74)
        refine g_lload C S at_269 (pc' := 271) rfl rfl ?_
        refine g_lconst C S (0 : Int64) at_271 (pc' := 272) rfl rfl ?_
        refine g_lcmp C S at_272 (pc' := 273) rfl ?_
        refine g_lif_le C S at_273 (pc' := 297) (pf := 276) (by decide) (by decide) rfl (fun hc273 => ?_) (fun hc273 => absurd hc273 hc98)
        refine g_iload C S at_297 (pc' := 299) rfl rfl ?_
        refine g_if_ne C S at_299 (pc' := 306) (pf := 302) (by decide) (by decide) rfl (fun hc299 => ?_) (fun hc299 => absurd hc299 (by decide))
        refine g_dload C S at_306 (pc' := 308) rfl rfl ?_
        refine g_iload C S at_308 (pc' := 310) rfl rfl ?_
        refine g_i2d C S at_310 (pc' := 311) rfl ?_
        refine g_ddiv C S at_311 (pc' := 312) rfl (nn_of (ddiv_mag (K := 1059) (L := 1023) (Jvm.Free.Fl.dadd_mag (K := 1057) (Jvm.Free.Fl.Mag64.mono own_mag0 (by decide)) (Jvm.Free.Fl.Mag64.mono (ddiv_mag (K := 1056) (L := 1023) (Jvm.Free.Fl.i2d_mag _) (l2d_big (own_nz hc53)) (by decide) (by decide)) (by decide)) (by decide)) (own_i2d (by decide)) (by decide) (by decide)) (by decide)) ?_
        refine g_dstore C S at_312 (pc' := 314) rfl (L' := #[.val (.long q1), .second, .val (.long q2), .second, .val (.long q3), .second, .val (.long q4), .second, .val (.long q5), .second, .val (.long q6), .second, .val (.long qa), .second, .val (.long qb), .second, .val (.long qc), .second, .val (.long ca), .second, .val (.long cb), .second, .val (.long cc), .second, .val (.double (FP.i2d xa)), .second, .val (.double FP.dconst0), .second, .val (.double FP.dconst0), .second, .val (.ref a145), .val (.ref a149), .val (.ref a153), .val (.ref b157), .val (.int ((0 : Int32) + (1 : Int32))), .val (.double (FP.dadd FP.dconst0 (FP.ddiv (FP.i2d xa) (FP.l2d ca)))), .second, .val (.double (FP.ddiv (FP.i2d xa) (FP.l2d ca))), .second, .val (.double FP.dconst0), .second, .val (.double FP.dconst0), .second, .val (.double (FP.ddiv (FP.dadd FP.dconst0 (FP.ddiv (FP.i2d xa) (FP.l2d ca))) (FP.i2d ((0 : Int32) + (1 : Int32))))), .second, .unset, .unset, .unset, .unset, .unset, .unset]) rfl ?_
        refine g_lload C S at_314 (pc' := 316) rfl rfl ?_
        refine g_lconst C S (0 : Int64) at_316 (pc' := 317) rfl rfl ?_
        refine g_lcmp C S at_317 (pc' := 318) rfl ?_
        refine g_lif_le C S at_318 (pc' := 326) (pf := 321) (by decide) (by decide) rfl (fun hc318 => absurd hc53 hc318) (fun hc318 => ?_)
        refine g_dload C S at_321 (pc' := 323) rfl rfl ?_
        refine g_goto C S at_323 (pc' := 328) (by decide) (by decide) ?_
        refine g_dstore C S at_328 (pc' := 330) rfl (L' := #[.val (.long q1), .second, .val (.long q2), .second, .val (.long q3), .second, .val (.long q4), .second, .val (.long q5), .second, .val (.long q6), .second, .val (.long qa), .second, .val (.long qb), .second, .val (.long qc), .second, .val (.long ca), .second, .val (.long cb), .second, .val (.long cc), .second, .val (.double (FP.i2d xa)), .second, .val (.double FP.dconst0), .second, .val (.double FP.dconst0), .second, .val (.ref a145), .val (.ref a149), .val (.ref a153), .val (.ref b157), .val (.int ((0 : Int32) + (1 : Int32))), .val (.double (FP.dadd FP.dconst0 (FP.ddiv (FP.i2d xa) (FP.l2d ca)))), .second, .val (.double (FP.ddiv (FP.i2d xa) (FP.l2d ca))), .second, .val (.double FP.dconst0), .second, .val (.double FP.dconst0), .second, .val (.double (FP.ddiv (FP.dadd FP.dconst0 (FP.ddiv (FP.i2d xa) (FP.l2d ca))) (FP.i2d ((0 : Int32) + (1 : Int32))))), .second, .val (.double (FP.ddiv (FP.i2d xa) (FP.l2d ca))), .second, .unset, .unset, .unset, .unset]) rfl ?_
        refine g_lload C S at_330 (pc' := 332) rfl rfl ?_
        refine g_lconst C S (0 : Int64) at_332 (pc' := 333) rfl rfl ?_
        refine g_lcmp C S at_333 (pc' := 334) rfl ?_
        refine g_lif_le C S at_334 (pc' := 342) (pf := 337) (by decide) (by decide) rfl (fun hc334 => ?_) (fun hc334 => absurd hc334 hc74)
        refine g_dload C S at_342 (pc' := 344) rfl rfl ?_
        refine g_dstore C S at_344 (pc' := 346) rfl (L' := #[.val (.long q1), .second, .val (.long q2), .second, .val (.long q3), .second, .val (.long q4), .second, .val (.long q5), .second, .val (.long q6), .second, .val (.long qa), .second, .val (.long qb), .second, .val (.long qc), .second, .val (.long ca), .second, .val (.long cb), .second, .val (.long cc), .second, .val (.double (FP.i2d xa)), .second, .val (.double FP.dconst0), .second, .val (.double FP.dconst0), .second, .val (.ref a145), .val (.ref a149), .val (.ref a153), .val (.ref b157), .val (.int ((0 : Int32) + (1 : Int32))), .val (.double (FP.dadd FP.dconst0 (FP.ddiv (FP.i2d xa) (FP.l2d ca)))), .second, .val (.double (FP.ddiv (FP.i2d xa) (FP.l2d ca))), .second, .val (.double FP.dconst0), .second, .val (.double FP.dconst0), .second, .val (.double (FP.ddiv (FP.dadd FP.dconst0 (FP.ddiv (FP.i2d xa) (FP.l2d ca))) (FP.i2d ((0 : Int32) + (1 : Int32))))), .second, .val (.double (FP.ddiv (FP.i2d xa) (FP.l2d ca))), .second, .val (.double (FP.ddiv (FP.dadd FP.dconst0 (FP.ddiv (FP.i2d xa) (FP.l2d ca))) (FP.i2d ((0 : Int32) + (1 : Int32))))), .second, .unset, .unset]) rfl ?_
        refine g_lload C S at_346 (pc' := 348) rfl rfl ?_
        refine g_lconst C S (0 : Int64) at_348 (pc' := 349) rfl rfl ?_
        refine g_lcmp C S at_349 (pc' := 350) rfl ?_
        refine g_lif_le C S at_350 (pc' := 358) (pf := 353) (by decide) (by decide) rfl (fun hc350 => ?_) (fun hc350 => absurd hc350 hc98)
        refine g_dload C S at_358 (pc' := 360) rfl rfl ?_
        refine g_dstore C S at_360 (pc' := 362) rfl (L' := #[.val (.long q1), .second, .val (.long q2), .second, .val (.long q3), .second, .val (.long q4), .second, .val (.long q5), .second, .val (.long q6), .second, .val (.long qa), .second, .val (.long qb), .second, .val (.long qc), .second, .val (.long ca), .second, .val (.long cb), .second, .val (.long cc), .second, .val (.double (FP.i2d xa)), .second, .val (.double FP.dconst0), .second, .val (.double FP.dconst0), .second, .val (.ref a145), .val (.ref a149), .val (.ref a153), .val (.ref b157), .val (.int ((0 : Int32) + (1 : Int32))), .val (.double (FP.dadd FP.dconst0 (FP.ddiv (FP.i2d xa) (FP.l2d ca)))), .second, .val (.double (FP.ddiv (FP.i2d xa) (FP.l2d ca))), .second, .val (.double FP.dconst0), .second, .val (.double FP.dconst0), .second, .val (.double (FP.ddiv (FP.dadd FP.dconst0 (FP.ddiv (FP.i2d xa) (FP.l2d ca))) (FP.i2d ((0 : Int32) + (1 : Int32))))), .second, .val (.double (FP.ddiv (FP.i2d xa) (FP.l2d ca))), .second, .val (.double (FP.ddiv (FP.dadd FP.dconst0 (FP.ddiv (FP.i2d xa) (FP.l2d ca))) (FP.i2d ((0 : Int32) + (1 : Int32))))), .second, .val (.double (FP.ddiv (FP.dadd FP.dconst0 (FP.ddiv (FP.i2d xa) (FP.l2d ca))) (FP.i2d ((0 : Int32) + (1 : Int32))))), .second]) rfl ?_
        refine g_aload C S at_362 (pc' := 364) rfl rfl rfl ?_
        refine g_iconst C S (0 : Int32) at_364 (pc' := 365) rfl rfl ?_
        refine g_daload C S (i := 0) (v := (.double (FP.dmul (FP.l2d qa) (FP.ddiv (FP.i2d xa) (FP.l2d ca))))) at_365 A_b157 (by decide) (by decide) hw0 (pc' := 366) rfl ?_
        refine g_lload C S at_366 (pc' := 368) rfl rfl ?_
        refine g_l2d C S at_368 (pc' := 369) rfl ?_
        refine g_dload C S at_369 (pc' := 371) rfl rfl ?_
        refine g_dmul C S at_371 (pc' := 372) rfl (nn_of (Jvm.Free.Fl.dmul_mag (Ka := 1088) (Kb := 1057) (Jvm.Free.Fl.l2d_mag _) (ddiv_mag (K := 1056) (L := 1023) (Jvm.Free.Fl.i2d_mag _) (l2d_big (own_nz hc53)) (by decide) (by decide)) (by decide) (by decide)) (by decide)) ?_
        refine g_dcmp C S at_372 (v := 0) (pc' := 373) rfl (dcmpV_self (nn_of (Jvm.Free.Fl.dmul_mag (Ka := 1088) (Kb := 1057) (Jvm.Free.Fl.l2d_mag _) (ddiv_mag (K := 1056) (L := 1023) (Jvm.Free.Fl.i2d_mag _) (l2d_big (own_nz hc53)) (by decide) (by decide)) (by decide) (by decide)) (by decide)) _) ?_
        refine g_if_ne C S at_373 (pc' := 408) (pf := 376) (by decide) (by decide) rfl (fun hc373 => absurd rfl hc373) (fun hc373 => ?_)
        refine g_aload C S at_376 (pc' := 378) rfl rfl rfl ?_
        refine g_iconst C S (1 : Int32) at_378 (pc' := 379) rfl rfl ?_
        refine g_daload C S (i := 1) (v := (.double (FP.dmul (FP.l2d qb) (FP.ddiv (FP.dadd FP.dconst0 (FP.ddiv (FP.i2d xa) (FP.l2d ca))) (FP.i2d ((0 : Int32) + (1 : Int32))))))) at_379 A_b157 (by decide) (by decide) hw1 (pc' := 380) rfl ?_
        refine g_lload C S at_380 (pc' := 382) rfl rfl ?_
        refine g_l2d C S at_382 (pc' := 383) rfl ?_
        refine g_dload C S at_383 (pc' := 385) rfl rfl ?_
        refine g_dmul C S at_385 (pc' := 386) rfl (nn_of (Jvm.Free.Fl.dmul_mag (Ka := 1088) (Kb := 1060) (Jvm.Free.Fl.l2d_mag _) (ddiv_mag (K := 1059) (L := 1023) (Jvm.Free.Fl.dadd_mag (K := 1057) (Jvm.Free.Fl.Mag64.mono own_mag0 (by decide)) (Jvm.Free.Fl.Mag64.mono (ddiv_mag (K := 1056) (L := 1023) (Jvm.Free.Fl.i2d_mag _) (l2d_big (own_nz hc53)) (by decide) (by decide)) (by decide)) (by decide)) (own_i2d (by decide)) (by decide) (by decide)) (by decide) (by decide)) (by decide)) ?_
        refine g_dcmp C S at_386 (v := 0) (pc' := 387) rfl (dcmpV_self (nn_of (Jvm.Free.Fl.dmul_mag (Ka := 1088) (Kb := 1060) (Jvm.Free.Fl.l2d_mag _) (ddiv_mag (K := 1059) (L := 1023) (Jvm.Free.Fl.dadd_mag (K := 1057) (Jvm.Free.Fl.Mag64.mono own_mag0 (by decide)) (Jvm.Free.Fl.Mag64.mono (ddiv_mag (K := 1056) (L := 1023) (Jvm.Free.Fl.i2d_mag _) (l2d_big (own_nz hc53)) (by decide) (by decide)) (by decide)) (by decide)) (own_i2d (by decide)) (by decide) (by decide)) (by decide) (by decide)) (by decide)) _) ?_
        refine g_if_ne C S at_387 (pc' := 408) (pf := 390) (by decide) (by decide) rfl (fun hc387 => absurd rfl hc387) (fun hc387 => ?_)
        refine g_aload C S at_390 (pc' := 392) rfl rfl rfl ?_
        refine g_iconst C S (2 : Int32) at_392 (pc' := 393) rfl rfl ?_
        refine g_daload C S (i := 2) (v := (.double (FP.dmul (FP.l2d qc) (FP.ddiv (FP.dadd FP.dconst0 (FP.ddiv (FP.i2d xa) (FP.l2d ca))) (FP.i2d ((0 : Int32) + (1 : Int32))))))) at_393 A_b157 (by decide) (by decide) hw2 (pc' := 394) rfl ?_
        refine g_lload C S at_394 (pc' := 396) rfl rfl ?_
        refine g_l2d C S at_396 (pc' := 397) rfl ?_
        refine g_dload C S at_397 (pc' := 399) rfl rfl ?_
        refine g_dmul C S at_399 (pc' := 400) rfl (nn_of (Jvm.Free.Fl.dmul_mag (Ka := 1088) (Kb := 1060) (Jvm.Free.Fl.l2d_mag _) (ddiv_mag (K := 1059) (L := 1023) (Jvm.Free.Fl.dadd_mag (K := 1057) (Jvm.Free.Fl.Mag64.mono own_mag0 (by decide)) (Jvm.Free.Fl.Mag64.mono (ddiv_mag (K := 1056) (L := 1023) (Jvm.Free.Fl.i2d_mag _) (l2d_big (own_nz hc53)) (by decide) (by decide)) (by decide)) (by decide)) (own_i2d (by decide)) (by decide) (by decide)) (by decide) (by decide)) (by decide)) ?_
        refine g_dcmp C S at_400 (v := 0) (pc' := 401) rfl (dcmpV_self (nn_of (Jvm.Free.Fl.dmul_mag (Ka := 1088) (Kb := 1060) (Jvm.Free.Fl.l2d_mag _) (ddiv_mag (K := 1059) (L := 1023) (Jvm.Free.Fl.dadd_mag (K := 1057) (Jvm.Free.Fl.Mag64.mono own_mag0 (by decide)) (Jvm.Free.Fl.Mag64.mono (ddiv_mag (K := 1056) (L := 1023) (Jvm.Free.Fl.i2d_mag _) (l2d_big (own_nz hc53)) (by decide) (by decide)) (by decide)) (by decide)) (own_i2d (by decide)) (by decide) (by decide)) (by decide) (by decide)) (by decide)) _) ?_
        refine g_if_ne C S at_401 (pc' := 408) (pf := 404) (by decide) (by decide) rfl (fun hc401 => absurd rfl hc401) (fun hc401 => ?_)
        refine g_iconst C S (1 : Int32) at_404 (pc' := 405) rfl rfl ?_
        refine g_goto C S at_405 (pc' := 409) (by decide) (by decide) ?_
        exact g_retZ C S at_409 (by decide) (by decide) (by decide) (rfl)
      · refine g_lload C S at_101 (pc' := 103) rfl rfl ?_
        refine g_bipush C S (32 : Int32) at_103 (pc' := 105) rfl rfl ?_
        refine g_lushr C S at_105 (pc' := 106) rfl ?_
        refine g_ldc2 C S at_106 (hw _ (List.mem_of_getElem? (i := 2) rfl)) (pc' := 109) rfl ?_
        refine g_land C S at_109 (pc' := 110) rfl ?_
        refine g_l2i C S at_110 (pc' := 111) rfl ?_
        obtain ⟨xc, e_xc⟩ : ∃ z, z = ((((q6.toUInt64 >>> ((32 : Int32) &&& 0x3f).toInt64.toUInt64).toInt64) &&& (65535 : Int64)).toInt32) := ⟨_, rfl⟩
        rw [← e_xc]
        refine g_i2d C S at_111 (pc' := 112) rfl ?_
        refine g_goto C S at_112 (pc' := 116) (by decide) (by decide) ?_
        refine g_dstore C S at_116 (pc' := 118) rfl (L' := #[.val (.long q1), .second, .val (.long q2), .second, .val (.long q3), .second, .val (.long q4), .second, .val (.long q5), .second, .val (.long q6), .second, .val (.long qa), .second, .val (.long qb), .second, .val (.long qc), .second, .val (.long ca), .second, .val (.long cb), .second, .val (.long cc), .second, .val (.double (FP.i2d xa)), .second, .val (.double FP.dconst0), .second, .val (.double (FP.i2d xc)), .second, .unset, .unset, .unset, .unset, .unset, .unset, .unset, .unset, .unset, .unset, .unset, .unset, .unset, .unset, .unset, .unset, .unset, .unset, .unset, .unset, .unset]) rfl ?_
        refine g_iconst C S (3 : Int32) at_118 (pc' := 119) rfl rfl ?_
        refine g_newarray C S (N := 3) (cap := 3) at_119 (hw _ (List.mem_of_getElem? (i := 3) rfl)) (by decide) (by decide) (by decide) (by decide) (by decide) (pc' := 121) rfl (fun T158 h158 a158 S g158 E158 A_a158 => ?_)
        have ge_a158 : n0 ≤ a158 := ge_of g158 Zn
        have Zn := Nat.le_trans Zn E158.1
        have A_a158 : Ary Z h158 a158 .long 3 (fun _ => (.long (0 : Int64))) := A_a158
        refine g_dup C S at_121 (pc' := 122) rfl rfl ?_
        refine g_iconst C S (0 : Int32) at_122 (pc' := 123) rfl rfl ?_
        refine g_lload C S at_123 (pc' := 125) rfl rfl ?_
        refine g_lastore C S (i := 0) at_125 A_a158 (by decide) (by decide) ge_a158 (pc' := 126) rfl (fun T159 h159 S W159 B159 => ?_)
        have Zn := Nat.le_trans Zn (Nat.le_of_eq W159.size.symm)
        have A_a158 := B159
        refine g_dup C S at_126 (pc' := 127) rfl rfl ?_
        refine g_iconst C S (1 : Int32) at_127 (pc' := 128) rfl rfl ?_
        refine g_lload C S at_128 (pc' := 130) rfl rfl ?_
        refine g_lastore C S (i := 1) at_130 A_a158 (by decide) (by decide) ge_a158 (pc' := 131) rfl (fun T160 h160 S W160 B160 => ?_)
        have Zn := Nat.le_trans Zn (Nat.le_of_eq W160.size.symm)
        have A_a158 := B160
        refine g_dup C S at_131 (pc' := 132) rfl rfl ?_
        refine g_iconst C S (2 : Int32) at_132 (pc' := 133) rfl rfl ?_
        refine g_lload C S at_133 (pc' := 135) rfl rfl ?_
        refine g_lastore C S (i := 2) at_135 A_a158 (by decide) (by decide) ge_a158 (pc' := 136) rfl (fun T161 h161 S W161 B161 => ?_)
        have Zn := Nat.le_trans Zn (Nat.le_of_eq W161.size.symm)
        have A_a158 := B161
        refine g_astore C S at_136 (pc' := 138) rfl rfl (L' := #[.val (.long q1), .second, .val (.long q2), .second, .val (.long q3), .second, .val (.long q4), .second, .val (.long q5), .second, .val (.long q6), .second, .val (.long qa), .second, .val (.long qb), .second, .val (.long qc), .second, .val (.long ca), .second, .val (.long cb), .second, .val (.long cc), .second, .val (.double (FP.i2d xa)), .second, .val (.double FP.dconst0), .second, .val (.double (FP.i2d xc)), .second, .val (.ref a158), .unset, .unset, .unset, .unset, .unset, .unset, .unset, .unset, .unset, .unset, .unset, .unset, .unset, .unset, .unset, .unset, .unset, .unset, .unset, .unset]) rfl ?_
        refine g_iconst C S (3 : Int32) at_138 (pc' := 139) rfl rfl ?_
        refine g_newarray C S (N := 3) (cap := 3) at_139 (hw _ (List.mem_of_getElem? (i := 3) rfl)) (by decide) (by decide) (by decide) (by decide) (by decide) (pc' := 141) rfl (fun T162 h162 a162 S g162 E162 A_a162 => ?_)
        have ne_a158_a162 : a158 ≠ a162 := ne_new g162 A_a158.lt
        have ge_a162 : n0 ≤ a162 := ge_of g162 Zn
        have Zn := Nat.le_trans Zn E162.1
        have A_a158 := A_a158.ext E162
        have A_a162 : Ary Z h162 a162 .long 3 (fun _ => (.long (0 : Int64))) := A_a162
        refine g_dup C S at_141 (pc' := 142) rfl rfl ?_
        refine g_iconst C S (0 : Int32) at_142 (pc' := 143) rfl rfl ?_
        refine g_lload C S at_143 (pc' := 145) rfl rfl ?_
        refine g_lastore C S (i := 0) at_145 A_a162 (by decide) (by decide) ge_a162 (pc' := 146) rfl (fun T163 h163 S W163 B163 => ?_)
        have Zn := Nat.le_trans Zn (Nat.le_of_eq W163.size.symm)
        have A_a158 := A_a158.other W163 ne_a158_a162
        have A_a162 := B163
        refine g_dup C S at_146 (pc' := 147) rfl rfl ?_
        refine g_iconst C S (1 : Int32) at_147 (pc' := 148) rfl rfl ?_
        refine g_lload C S at_148 (pc' := 150) rfl rfl ?_
        refine g_lastore C S (i := 1) at_150 A_a162 (by decide) (by decide) ge_a162 (pc' := 151) rfl (fun T164 h164 S W164 B164 => ?_)
        have Zn := Nat.le_trans Zn (Nat.le_of_eq W164.size.symm)
        have A_a158 := A_a158.other W164 ne_a158_a162
        have A_a162 := B164
        refine g_dup C S at_151 (pc' := 152) rfl rfl ?_
        refine g_iconst C S (2 : Int32) at_152 (pc' := 153) rfl rfl ?_
        refine g_lload C S at_153 (pc' := 155) rfl rfl ?_
        refine g_lastore C S (i := 2) at_155 A_a162 (by decide) (by decide) ge_a162 (pc' := 156) rfl (fun T165 h165 S W165 B165 => ?_)
        have Zn := Nat.le_trans Zn (Nat.le_of_eq W165.size.symm)
        have A_a158 := A_a158.other W165 ne_a158_a162
        have A_a162 := B165
        refine g_astore C S at_156 (pc' := 158) rfl rfl (L' := #[.val (.long q1), .second, .val (.long q2), .second, .val (.long q3), .second, .val (.long q4), .second, .val (.long q5), .second, .val (.long q6), .second, .val (.long qa), .second, .val (.long qb), .second, .val (.long qc), .second, .val (.long ca), .second, .val (.long cb), .second, .val (.long cc), .second, .val (.double (FP.i2d xa)), .second, .val (.double FP.dconst0), .second, .val (.double (FP.i2d xc)), .second, .val (.ref a158), .val (.ref a162), .unset, .unset, .unset, .unset, .unset, .unset, .unset, .unset, .unset, .unset, .unset, .unset, .unset, .unset, .unset, .unset, .unset, .unset, .unset]) rfl ?_
        refine g_iconst C S (3 : Int32) at_158 (pc' := 159) rfl rfl ?_
        refine g_newarray C S (N := 3) (cap := 3) at_159 (hw _ (List.mem_of_getElem? (i := 4) rfl)) (by decide) (by decide) (by decide) (by decide) (by decide) (pc' := 161) rfl (fun T166 h166 a166 S g166 E166 A_a166 => ?_)
        have ne_a158_a166 : a158 ≠ a166 := ne_new g166 A_a158.lt
        have ne_a162_a166 : a162 ≠ a166 := ne_new g166 A_a162.lt
        have ge_a166 : n0 ≤ a166 := ge_of g166 Zn
        have Zn := Nat.le_trans Zn E166.1
        have A_a158 := A_a158.ext E166
        have A_a162 := A_a162.ext E166
        have A_a166 : Ary Z h166 a166 .double 3 (fun _ => (.double 0)) := A_a166
        refine g_dup C S at_161 (pc' := 162) rfl rfl ?_
        refine g_iconst C S (0 : Int32) at_162 (pc' := 163) rfl rfl ?_
        refine g_dload C S at_163 (pc' := 165) rfl rfl ?_
        refine g_dastore C S (i := 0) at_165 A_a166 (by decide) (by decide) ge_a166 (pc' := 166) rfl (fun T167 h167 S W167 B167 => ?_)
        have Zn := Nat.le_trans Zn (Nat.le_of_eq W167.size.symm)
        have A_a158 := A_a158.other W167 ne_a158_a166
        have A_a162 := A_a162.other W167 ne_a162_a166
        have A_a166 := B167
        refine g_dup C S at_166 (pc' := 167) rfl rfl ?_
        refine g_iconst C S (1 : Int32) at_167 (pc' := 168) rfl rfl ?_
        refine g_dload C S at_168 (pc' := 170) rfl rfl ?_
        refine g_dastore C S (i := 1) at_170 A_a166 (by decide) (by decide) ge_a166 (pc' := 171) rfl (fun T168 h168 S W168 B168 => ?_)
        have Zn := Nat.le_trans Zn (Nat.le_of_eq W168.size.symm)
        have A_a158 := A_a158.other W168 ne_a158_a166
        have A_a162 := A_a162.other W168 ne_a162_a166
        have A_a166 := B168
        refine g_dup C S at_171 (pc' := 172) rfl rfl ?_
        refine g_iconst C S (2 : Int32) at_172 (pc' := 173) rfl rfl ?_
        refine g_dload C S at_173 (pc' := 175) rfl rfl ?_
        refine g_dastore C S (i := 2) at_175 A_a166 (by decide) (by decide) ge_a166 (pc' := 176) rfl (fun T169 h169 S W169 B169 => ?_)
        have Zn := Nat.le_trans Zn (Nat.le_of_eq W169.size.symm)
        have A_a158 := A_a158.other W169 ne_a158_a166
        have A_a162 := A_a162.other W169 ne_a162_a166
        have A_a166 := B169
        refine g_astore C S at_176 (pc' := 178) rfl rfl (L' := #[.val (.long q1), .second, .val (.long q2), .second, .val (.long q3), .second, .val (.long q4), .second, .val (.long q5), .second, .val (.long q6), .second, .val (.long qa), .second, .val (.long qb), .second, .val (.long qc), .second, .val (.long ca), .second, .val (.long cb), .second, .val (.long cc), .second, .val (.double (FP.i2d xa)), .second, .val (.double FP.dconst0), .second, .val (.double (FP.i2d xc)), .second, .val (.ref a158), .val (.ref a162), .val (.ref a166), .unset, .unset, .unset, .unset, .unset, .unset, .unset, .unset, .unset, .unset, .unset, .unset, .unset, .unset, .unset, .unset, .unset, .unset]) rfl ?_
        refine g_aload C S at_178 (pc' := 180) rfl rfl rfl ?_
        refine g_aload C S at_180 (pc' := 182) rfl rfl rfl ?_
        refine g_aload C S at_182 (pc' := 184) rfl rfl rfl ?_
        refine g_callS C S (rm := ({ frames := 1, cells := 2, slots := 6, locals := 20 } : Room)) (W := 0) at_184 (hw _ (List.mem_of_getElem? (i := 5) rfl)) (hw _ (List.mem_of_getElem? (i := 6) rfl)) (hw _ (List.mem_of_getElem? (i := 7) rfl)) (hw _ (List.mem_of_getElem? (i := 8) rfl)) (by decide) (c_wt101 l Z a0 hw a158 a162 a166 h169 n0 ca cb cc (FP.i2d xa) FP.dconst0 (FP.i2d xc) _ _ (Jvm.Free.Fl.i2d_mag _) own_mag0 (Jvm.Free.Fl.i2d_mag _) rfl rfl rfl rfl rfl rfl qa qb qc _ rfl rfl rfl hc53 hc74 hc98 Zn A_a158 A_a162 A_a166) (argsL := [(.ref a158), (.ref a162), (.ref a166)]) (r := []) rfl (lenOf pd_1 rfl) rfl (Nat.le_of_eq rfl) (by decide) (by decide) (by decide) (by decide) (pc' := 187) rfl (fun T170 h170 v170 q170 S => ?_)
        obtain ⟨b170, fw, rfl, ge_b170, sz_b170, A_b170, hw0, hw1, hw2⟩ := q170
        show Gl p e below s _ n0 _ T170 (mkF m 187 #[.val (.long q1), .second, .val (.long q2), .second, .val (.long q3), .second, .val (.long q4), .second, .val (.long q5), .second, .val (.long q6), .second, .val (.long qa), .second, .val (.long qb), .second, .val (.long qc), .second, .val (.long ca), .second, .val (.long cb), .second, .val (.long cc), .second, .val (.double (FP.i2d xa)), .second, .val (.double FP.dconst0), .second, .val (.double (FP.i2d xc)), .second, .val (.ref a158), .val (.ref a162), .val (.ref a166), .unset, .unset, .unset, .unset, .unset, .unset, .unset, .unset, .unset, .unset, .unset, .unset, .unset, .unset, .unset, .unset, .unset, .unset] [(.ref b170)])
        refine g_astore C S at_187 (pc' := 189) rfl rfl (L' := #[.val (.long q1), .second, .val (.long q2), .second, .val (.long q3), .second, .val (.long q4), .second, .val (.long q5), .second, .val (.long q6), .second, .val (.long qa), .second, .val (.long qb), .second, .val (.long qc), .second, .val (.long ca), .second, .val (.long cb), .second, .val (.long cc), .second, .val (.double (FP.i2d xa)), .second, .val (.double FP.dconst0), .second, .val (.double (FP.i2d xc)), .second, .val (.ref a158), .val (.ref a162), .val (.ref a166), .val (.ref b170), .unset, .unset, .unset, .unset, .unset, .unset, .unset, .unset, .unset, .unset, .unset, .unset, .unset, .unset, .unset, .unset, .unset]) rfl ?_
        refine g_aload C S at_189 (pc' := 191) rfl rfl rfl ?_
        refine g_arraylength C S (x := (3 : Int32)) at_191 A_b170 (by decide) (pc' := 192) rfl ?_
        refine g_iconst C S (3 : Int32) at_192 (pc' := 193) rfl rfl ?_
        refine g_icmp_eq C S at_193 (pc' := 198) (pf := 196) (by decide) (by decide) rfl (fun hc193 => ?_) (fun hc193 => absurd rfl hc193)
        refine g_iconst C S (0 : Int32) at_198 (pc' := 199) rfl rfl ?_
        refine g_istore C S at_199 (pc' := 201) rfl (L' := #[.val (.long q1), .second, .val (.long q2), .second, .val (.long q3), .second, .val (.long q4), .second, .val (.long q5), .second, .val (.long q6), .second, .val (.long qa), .second, .val (.long qb), .second, .val (.long qc), .second, .val (.long ca), .second, .val (.long cb), .second, .val (.long cc), .second, .val (.double (FP.i2d xa)), .second, .val (.double FP.dconst0), .second, .val (.double (FP.i2d xc)), .second, .val (.ref a158), .val (.ref a162), .val (.ref a166), .val (.ref b170), .val (.int (0 : Int32)), .unset, .unset, .unset, .unset, .unset, .unset, .unset, .unset, .unset, .unset, .unset, .unset, .unset, .unset, .unset, .unset]) rfl ?_
        refine g_dconst0 C S at_201 (pc' := 202) rfl ?_
        refine g_dstore C S at_202 (pc' := 204) rfl (L' := #[.val (.long q1), .second, .val (.long q2), .second, .val (.long q3), .second, .val (.long q4), .second, .val (.long q5), .second, .val (.long q6), .second, .val (.long qa), .second, .val (.long qb), .second, .val (.long qc), .second, .val (.long ca), .second, .val (.long cb), .second, .val (.long cc), .second, .val (.double (FP.i2d xa)), .second, .val (.double FP.dconst0), .second, .val (.double (FP.i2d xc)), .second, .val (.ref a158), .val (.ref a162), .val (.ref a166), .val (.ref b170), .val (.int (0 : Int32)), .val (.double FP.dconst0), .second, .unset, .unset, .unset, .unset, .unset, .unset, .unset, .unset, .unset, .unset, .unset, .unset, .unset, .unset]) rfl ?_
        refine g_dconst0 C S at_204 (pc' := 205) rfl ?_
        refine g_dstore C S at_205 (pc' := 207) rfl (L' := #[.val (.long q1), .second, .val (.long q2), .second, .val (.long q3), .second, .val (.long q4), .second, .val (.long q5), .second, .val (.long q6), .second, .val (.long qa), .second, .val (.long qb), .second, .val (.long qc), .second, .val (.long ca), .second, .val (.long cb), .second, .val (.long cc), .second, .val (.double (FP.i2d xa)), .second, .val (.double FP.dconst0), .second, .val (.double (FP.i2d xc)), .second, .val (.ref a158), .val (.ref a162), .val (.ref a166), .val (.ref b170), .val (.int (0 : Int32)), .val (.double FP.dconst0), .second, .val (.double FP.dconst0), .second, .unset, .unset, .unset, .unset, .unset, .unset, .unset, .unset, .unset, .unset, .unset, .unset]) rfl ?_
        refine g_dconst0 C S at_207 (pc' := 208) rfl ?_
        refine g_dstore C S at_208 (pc' := 210) rfl (L' := #[.val (.long q1), .second, .val (.long q2), .second, .val (.long q3), .second, .val (.long q4), .second, .val (.long q5), .second, .val (.long q6), .second, .val (.long qa), .second, .val (.long qb), .second, .val (.long qc), .second, .val (.long ca), .second, .val (.long cb), .second, .val (.long cc), .second, .val (.double (FP.i2d xa)), .second, .val (.double FP.dconst0), .second, .val (.double (FP.i2d xc)), .second, .val (.ref a158), .val (.ref a162), .val (.ref a166), .val (.ref b170), .val (.int (0 : Int32)), .val (.double FP.dconst0), .second, .val (.double FP.dconst0), .second, .val (.double FP.dconst0), .second, .unset, .unset, .unset, .unset, .unset, .unset, .unset, .unset, .unset, .unset]) rfl ?_
        refine g_dconst0 C S at_210 (pc' := 211) rfl ?_
        refine g_dstore C S at_211 (pc' := 213) rfl (L' := #[.val (.long q1), .second, .val (.long q2), .second, .val (.long q3), .second, .val (.long q4), .second, .val (.long q5), .second, .val (.long q6), .second, .val (.long qa), .second, .val (.long qb), .second, .val (.long qc), .second, .val (.long ca), .second, .val (.long cb), .second, .val (.long cc), .second, .val (.double (FP.i2d xa)), .second, .val (.double FP.dconst0), .second, .val (.double (FP.i2d xc)), .second, .val (.ref a158), .val (.ref a162), .val (.ref a166), .val (.ref b170), .val (.int (0 : Int32)), .val (.double FP.dconst0), .second, .val (.double FP.dconst0), .second, .val (.double FP.dconst0), .second, .val (.double FP.dconst0), .second, .unset, .unset, .unset, .unset, .unset, .unset, .unset, .unset]) rfl ?_
        refine g_lload C S at_213 (pc' := 215) rfl rfl ?_
        refine g_lconst C S (0 : Int64) at_215 (pc' := 216) rfl rfl ?_
        refine g_lcmp C S at_216 (pc' := 217) rfl ?_
        refine g_lif_le C S at_217 (pc' := 241) (pf := 220) (by decide) (by decide) rfl (fun hc217 => absurd hc53 hc217) (fun hc217 => ?_)
        refine g_dload C S at_220 (pc' := 222) rfl rfl ?_
        refine g_lload C S at_222 (pc' := 224) rfl rfl ?_
        refine g_l2d C S at_224 (pc' := 225) rfl ?_
        refine g_ddiv C S at_225 (pc' := 226) rfl (nn_of (ddiv_mag (K := 1056) (L := 1023) (Jvm.Free.Fl.i2d_mag _) (l2d_big (own_nz hc53)) (by decide) (by decide)) (by decide)) ?_
        refine g_dstore C S at_226 (pc' := 228) rfl (L' := #[.val (.long q1), .second, .val (.long q2), .second, .val (.long q3), .second, .val (.long q4), .second, .val (.long q5), .second, .val (.long q6), .second, .val (.long qa), .second, .val (.long qb), .second, .val (.long qc), .second, .val (.long ca), .second, .val (.long cb), .second, .val (.long cc), .second, .val (.double (FP.i2d xa)), .second, .val (.double FP.dconst0), .second, .val (.double (FP.i2d xc)), .second, .val (.ref a158), .val (.ref a162), .val (.ref a166), .val (.ref b170), .val (.int (0 : Int32)), .val (.double FP.dconst0), .second, .val (.double (FP.ddiv (FP.i2d xa) (FP.l2d ca))), .second, .val (.double FP.dconst0), .second, .val (.double FP.dconst0), .second, .unset, .unset, .unset, .unset, .unset, .unset, .unset, .unset]) rfl ?_
        refine g_dload C S at_228 (pc' := 230) rfl rfl ?_
        refine g_dload C S at_230 (pc' := 232) rfl rfl ?_
        refine g_dadd C S at_232 (pc' := 233) rfl (nn_of (Jvm.Free.Fl.dadd_mag (K := 1057) (Jvm.Free.Fl.Mag64.mono own_mag0 (by decide)) (Jvm.Free.Fl.Mag64.mono (ddiv_mag (K := 1056) (L := 1023) (Jvm.Free.Fl.i2d_mag _) (l2d_big (own_nz hc53)) (by decide) (by decide)) (by decide)) (by decide)) (by decide)) ?_
        refine g_dstore C S at_233 (pc' := 235) rfl (L' := #[.val (.long q1), .second, .val (.long q2), .second, .val (.long q3), .second, .val (.long q4), .second, .val (.long q5), .second, .val (.long q6), .second, .val (.long qa), .second, .val (.long qb), .second, .val (.long qc), .second, .val (.long ca), .second, .val (.long cb), .second, .val (.long cc), .second, .val (.double (FP.i2d xa)), .second, .val (.double FP.dconst0), .second, .val (.double (FP.i2d xc)), .second, .val (.ref a158), .val (.ref a162), .val (.ref a166), .val (.ref b170), .val (.int (0 : Int32)), .val (.double (FP.dadd FP.dconst0 (FP.ddiv (FP.i2d xa) (FP.l2d ca)))), .second, .val (.double (FP.ddiv (FP.i2d xa) (FP.l2d ca))), .second, .val (.double FP.dconst0), .second, .val (.double FP.dconst0), .second, .unset, .unset, .unset, .unset, .unset, .unset, .unset, .unset]) rfl ?_
        refine g_iload C S at_235 (pc' := 237) rfl rfl ?_
        refine g_iconst C S (1 : Int32) at_237 (pc' := 238) rfl rfl ?_
        refine g_iadd C S at_238 (pc' := 239) rfl ?_
        refine g_istore C S at_239 (pc' := 241) rfl (L' := #[.val (.long q1), .second, .val (.long q2), .second, .val (.long q3), .second, .val (.long q4), .second, .val (.long q5), .second, .val (.long q6), .second, .val (.long qa), .second, .val (.long qb), .second, .val (.long qc), .second, .val (.long ca), .second, .val (.long cb), .second, .val (.long cc), .second, .val (.double (FP.i2d xa)), .second, .val (.double FP.dconst0), .second, .val (.double (FP.i2d xc)), .second, .val (.ref a158), .val (.ref a162), .val (.ref a166), .val (.ref b170), .val (.int ((0 : Int32) + (1 : Int32))), .val (.double (FP.dadd FP.dconst0 (FP.ddiv (FP.i2d xa) (FP.l2d ca)))), .second, .val (.double (FP.ddiv (FP.i2d xa) (FP.l2d ca))), .second, .val (.double FP.dconst0), .second, .val (.double FP.dconst0), .second, .unset, .unset, .unset, .unset, .unset, .unset, .unset, .unset]) rfl ?_
        refine g_lload C S at_241 (pc' := 243) rfl rfl ?_
        refine g_lconst C S (0 : Int64) at_243 (pc' := 244) rfl rfl ?_
        refine g_lcmp C S at_244 (pc' := 245) rfl ?_
        refine g_lif_le C S at_245 (pc' := 269) (pf := 248) (by decide) (by decide) rfl (fun hc245 => ?_) (fun hc245 => absurd hc245 hc74)
        refine g_lload C S at_269 (pc' := 271) rfl rfl ?_
        refine g_lconst C S (0 : Int64) at_271 (pc' := 272) rfl rfl ?_
        refine g_lcmp C S at_272 (pc' := 273) rfl ?_
        refine g_lif_le C S at_273 (pc' := 297) (pf := 276) (by decide) (by decide) rfl (fun hc273 => absurd hc98 hc273) (fun hc273 => ?_)
        refine g_dload C S at_276 (pc' := 278) rfl rfl ?_
        refine g_lload C S at_278 (pc' := 280) rfl rfl ?_
        refine g_l2d C S at_280 (pc' := 281) rfl ?_
        refine g_ddiv C S at_281 (pc' := 282) rfl (nn_of (ddiv_mag (K := 1056) (L := 1023) (Jvm.Free.Fl.i2d_mag _) (l2d_big (own_nz hc98)) (by decide) (by decide)) (by decide)) ?_
        refine g_dstore C S at_282 (pc' := 284) rfl (L' := #[.val (.long q1), .second, .val (.long q2), .second, .val (.long q3), .second, .val (.long q4), .second, .val (.long q5), .second, .val (.long q6), .second, .val (.long qa), .second, .val (.long qb), .second, .val (.long qc), .second, .val (.long ca), .second, .val (.long cb), .second, .val (.long cc), .second, .val (.double (FP.i2d xa)), .second, .val (.double FP.dconst0), .second, .val (.double (FP.i2d xc)), .second, .val (.ref a158), .val (.ref a162), .val (.ref a166), .val (.ref b170), .val (.int ((0 : Int32) + (1 : Int32))), .val (.double (FP.dadd FP.dconst0 (FP.ddiv (FP.i2d xa) (FP.l2d ca)))), .second, .val (.double (FP.ddiv (FP.i2d xa) (FP.l2d ca))), .second, .val (.double FP.dconst0), .second, .val (.double (FP.ddiv (FP.i2d xc) (FP.l2d cc))), .second, .unset, .unset, .unset, .unset, .unset, .unset, .unset, .unset]) rfl ?_
        refine g_dload C S at_284 (pc' := 286) rfl rfl ?_
        refine g_dload C S at_286 (pc' := 288) rfl rfl ?_
        refine g_dadd C S at_288 (pc' := 289) rfl (nn_of (Jvm.Free.Fl.dadd_mag (K := 1059) (Jvm.Free.Fl.Mag64.mono (Jvm.Free.Fl.dadd_mag (K := 1057) (Jvm.Free.Fl.Mag64.mono own_mag0 (by decide)) (Jvm.Free.Fl.Mag64.mono (ddiv_mag (K := 1056) (L := 1023) (Jvm.Free.Fl.i2d_mag _) (l2d_big (own_nz hc53)) (by decide) (by decide)) (by decide)) (by decide)) (by decide)) (Jvm.Free.Fl.Mag64.mono (ddiv_mag (K := 1056) (L := 1023) (Jvm.Free.Fl.i2d_mag _) (l2d_big (own_nz hc98)) (by decide) (by decide)) (by decide)) (by decide)) (by decide)) ?_
        refine g_dstore C S at_289 (pc' := 291) rfl (L' := #[.val (.long q1), .second, .val (.long q2), .second, .val (.long q3), .second, .val (.long q4), .second, .val (.long q5), .second, .val (.long q6), .second, .val (.long qa), .second, .val (.long qb), .second, .val (.long qc), .second, .val (.long ca), .second, .val (.long cb), .second, .val (.long cc), .second, .val (.double (FP.i2d xa)), .second, .val (.double FP.dconst0), .second, .val (.double (FP.i2d xc)), .second, .val (.ref a158), .val (.ref a162), .val (.ref a166), .val (.ref b170), .val (.int ((0 : Int32) + (1 : Int32))), .val (.double (FP.dadd (FP.dadd FP.dconst0 (FP.ddiv (FP.i2d xa) (FP.l2d ca))) (FP.ddiv (FP.i2d xc) (FP.l2d cc)))), .second, .val (.double (FP.ddiv (FP.i2d xa) (FP.l2d ca))), .second, .val (.double FP.dconst0), .second, .val (.double (FP.ddiv (FP.i2d xc) (FP.l2d cc))), .second, .unset, .unset, .unset, .unset, .unset, .unset, .unset, .unset]) rfl ?_
        refine g_iload C S at_291 (pc' := 293) rfl rfl ?_
        refine g_iconst C S (1 : Int32) at_293 (pc' := 294) rfl rfl ?_
        refine g_iadd C S at_294 (pc' := 295) rfl ?_
        refine g_istore C S at_295 (pc' := 297) rfl (L' := #[.val (.long q1), .second, .val (.long q2), .second, .val (.long q3), .second, .val (.long q4), .second, .val (.long q5), .second, .val (.long q6), .second, .val (.long qa), .second, .val (.long qb), .second, .val (.long qc), .second, .val (.long ca), .second, .val (.long cb), .second, .val (.long cc), .second, .val (.double (FP.i2d xa)), .second, .val (.double FP.dconst0), .second, .val (.double (FP.i2d xc)), .second, .val (.ref a158), .val (.ref a162), .val (.ref a166), .val (.ref b170), .val (.int (((0 : Int32) + (1 : Int32)) + (1 : Int32))), .val (.double (FP.dadd (FP.dadd FP.dconst0 (FP.ddiv (FP.i2d xa) (FP.l2d ca))) (FP.ddiv (FP.i2d xc) (FP.l2d cc)))), .second, .val (.double (FP.ddiv (FP.i2d xa) (FP.l2d ca))), .second, .val (.double FP.dconst0), .second, .val (.double (FP.ddiv (FP.i2d xc) (FP.l2d cc))), .second, .unset, .unset, .unset, .unset, .unset, .unset, .unset, .unset]) rfl ?_
        refine g_iload C S at_297 (pc' := 299) rfl rfl ?_
        refine g_if_ne C S at_299 (pc' := 306) (pf := 302) (by decide) (by decide) rfl (fun hc299 => ?_) (fun hc299 => absurd hc299 (by decide))
        refine g_dload C S at_306 (pc' := 308) rfl rfl ?_
        refine g_iload C S at_308 (pc' := 310) rfl rfl ?_
        refine g_i2d C S at_310 (pc' := 311) rfl ?_
        refine g_ddiv C S at_311 (pc' := 312) rfl (nn_of (ddiv_mag (K := 1061) (L := 1023) (Jvm.Free.Fl.dadd_mag (K := 1059) (Jvm.Free.Fl.Mag64.mono (Jvm.Free.Fl.dadd_mag (K := 1057) (Jvm.Free.Fl.Mag64.mono own_mag0 (by decide)) (Jvm.Free.Fl.Mag64.mono (ddiv_mag (K := 1056) (L := 1023) (Jvm.Free.Fl.i2d_mag _) (l2d_big (own_nz hc53)) (by decide) (by decide)) (by decide)) (by decide)) (by decide)) (Jvm.Free.Fl.Mag64.mono (ddiv_mag (K := 1056) (L := 1023) (Jvm.Free.Fl.i2d_mag _) (l2d_big (own_nz hc98)) (by decide) (by decide)) (by decide)) (by decide)) (own_i2d (by decide)) (by decide) (by decide)) (by decide)) ?_
        refine g_dstore C S at_312 (pc' := 314) rfl (L' := #[.val (.long q1), .second, .val (.long q2), .second, .val (.long q3), .second, .val (.long q4), .second, .val (.long q5), .second, .val (.long q6), .second, .val (.long qa), .second, .val (.long qb), .second, .val (.long qc), .second, .val (.long ca), .second, .val (.long cb), .second, .val (.long cc), .second, .val (.double (FP.i2d xa)), .second, .val (.double FP.dconst0), .second, .val (.double (FP.i2d xc)), .second, .val (.ref a158), .val (.ref a162), .val (.ref a166), .val (.ref b170), .val (.int (((0 : Int32) + (1 : Int32)) + (1 : Int32))), .val (.double (FP.dadd (FP.dadd FP.dconst0 (FP.ddiv (FP.i2d xa) (FP.l2d ca))) (FP.ddiv (FP.i2d xc) (FP.l2d cc)))), .second, .val (.double (FP.ddiv (FP.i2d xa) (FP.l2d ca))), .second, .val (.double FP.dconst0), .second, .val (.double (FP.ddiv (FP.i2d xc) (FP.l2d cc))), .second, .val (.double (FP.ddiv (FP.dadd (FP.dadd FP.dconst0 (FP.ddiv (FP.i2d xa) (FP.l2d ca))) (FP.ddiv (FP.i2d xc) (FP.l2d cc))) (FP.i2d (((0 : Int32) + (1 : Int32)) + (1 : Int32))))), .second, .unset, .unset, .unset, .unset, .unset, .unset]) rfl ?_
        refine g_lload C S at_314 (pc' := 316) rfl rfl ?_
        refine g_lconst C S (0 : Int64) at_316 (pc' := 317) rfl rfl ?_
        refine g_lcmp C S at_317 (pc' := 318) rfl ?_
        refine g_lif_le C S at_318 (pc' := 326) (pf := 321) (by decide) (by decide) rfl (fun hc318 => absurd hc53 hc318) (fun hc318 => ?_)
        refine g_dload C S at_321 (pc' := 323) rfl rfl ?_
        refine g_goto C S at_323 (pc' := 328) (by decide) (by decide) ?_
        refine g_dstore C S at_328 (pc' := 330) rfl (L' := #[.val (.long q1), .second, .val (.long q2), .second, .val (.long q3), .second, .val (.long q4), .second, .val (.long q5), .second, .val (.long q6), .second, .val (.long qa), .second, .val (.long qb), .second, .val (.long qc), .second, .val (.long ca), .second, .val (.long cb), .second, .val (.long cc), .second, .val (.double (FP.i2d xa)), .second, .val (.double FP.dconst0), .second, .val (.double (FP.i2d xc)), .second, .val (.ref a158), .val (.ref a162), .val (.ref a166), .val (.ref b170), .val (.int (((0 : Int32) + (1 : Int32)) + (1 : Int32))), .val (.double (FP.dadd (FP.dadd FP.dconst0 (FP.ddiv (FP.i2d xa) (FP.l2d ca))) (FP.ddiv (FP.i2d xc) (FP.l2d cc)))), .second, .val (.double (FP.ddiv (FP.i2d xa) (FP.l2d ca))), .second, .val (.double FP.dconst0), .second, .val (.double (FP.ddiv (FP.i2d xc) (FP.l2d cc))), .second, .val (.double (FP.ddiv (FP.dadd (FP.dadd FP.dconst0 (FP.ddiv (FP.i2d xa) (FP.l2d ca))) (FP.ddiv (FP.i2d xc) (FP.l2d cc))) (FP.i2d (((0 : Int32) + (1 : Int32)) + (1 : Int32))))), .second, .val (.double (FP.ddiv (FP.i2d xa) (FP.l2d ca))), .second, .unset, .unset, .unset, .unset]) rfl ?_
        refine g_lload C S at_330 (pc' := 332) rfl rfl ?_
        refine g_lconst C S (0 : Int64) at_332 (pc' := 333) rfl rfl ?_
        refine g_lcmp C S at_333 (pc' := 334) rfl ?_
        refine g_lif_le C S at_334 (pc' := 342) (pf := 337) (by decide) (by decide) rfl (fun hc334 => ?_) (fun hc334 => absurd hc334 hc74)
        refine g_dload C S at_342 (pc' := 344) rfl rfl ?_
        refine g_dstore C S at_344 (pc' := 346) rfl (L' := #[.val (.long q1), .second, .val (.long q2), .second, .val (.long q3), .second, .val (.long q4), .second, .val (.long q5), .second, .val (.long q6), .second, .val (.long qa), .second, .val (.long qb), .second, .val (.long qc), .second, .val (.long ca), .second, .val (.long cb), .second, .val (.long cc), .second, .val (.double (FP.i2d xa)), .second, .val (.double FP.dconst0), .second, .val (.double (FP.i2d xc)), .second, .val (.ref a158), .val (.ref a162), .val (.ref a166), .val (.ref b170), .val (.int (((0 : Int32) + (1 : Int32)) + (1 : Int32))), .val (.double (FP.dadd (FP.dadd FP.dconst0 (FP.ddiv (FP.i2d xa) (FP.l2d ca))) (FP.ddiv (FP.i2d xc) (FP.l2d cc)))), .second, .val (.double (FP.ddiv (FP.i2d xa) (FP.l2d ca))), .second, .val (.double FP.dconst0), .second, .val (.double (FP.ddiv (FP.i2d xc) (FP.l2d cc))), .second, .val (.double (FP.ddiv (FP.dadd (FP.dadd FP.dconst0 (FP.ddiv (FP.i2d xa) (FP.l2d ca))) (FP.ddiv (FP.i2d xc) (FP.l2d cc))) (FP.i2d (((0 : Int32) + (1 : Int32)) + (1 : Int32))))), .second, .val (.double (FP.ddiv (FP.i2d xa) (FP.l2d ca))), .second, .val (.double (FP.ddiv (FP.dadd (FP.dadd FP.dconst0 (FP.ddiv (FP.i2d xa) (FP.l2d ca))) (FP.ddiv (FP.i2d xc) (FP.l2d cc))) (FP.i2d (((0 : Int32) + (1 : Int32)) + (1 : Int32))))), .second, .unset, .unset]) rfl ?_
        refine g_lload C S at_346 (pc' := 348) rfl rfl ?_
        refine g_lconst C S (0 : Int64) at_348 (pc' := 349) rfl rfl ?_
        refine g_lcmp C S at_349 (pc' := 350) rfl ?_
        refine g_lif_le C S at_350 (pc' := 358) (pf := 353) (by decide) (by decide) rfl (fun hc350 => absurd hc98 hc350) (fun hc350 => ?_)
        refine g_dload C S at_353 (pc' := 355) rfl rfl ?_
        refine g_goto C S at_355 (pc' := 360) (by decide) (by decide) ?_
        refine g_dstore C S at_360 (pc' := 362) rfl (L' := #[.val (.long q1), .second, .val (.long q2), .second, .val (.long q3), .second, .val (.long q4), .second, .val (.long q5), .second, .val (.long q6), .second, .val (.long qa), .second, .val (.long qb), .second, .val (.long qc), .second, .val (.long ca), .second, .val (.long cb), .second, .val (.long cc), .second, .val (.double (FP.i2d xa)), .second, .val (.double FP.dconst0), .second, .val (.double (FP.i2d xc)), .second, .val (.ref a158), .val (.ref a162), .val (.ref a166), .val (.ref b170), .val (.int (((0 : Int32) + (1 : Int32)) + (1 : Int32))), .val (.double (FP.dadd (FP.dadd FP.dconst0 (FP.ddiv (FP.i2d xa) (FP.l2d ca))) (FP.ddiv (FP.i2d xc) (FP.l2d cc)))), .second, .val (.double (FP.ddiv (FP.i2d xa) (FP.l2d ca))), .second, .val (.double FP.dconst0), .second, .val (.double (FP.ddiv (FP.i2d xc) (FP.l2d cc))), .second, .val (.double (FP.ddiv (FP.dadd (FP.dadd FP.dconst0 (FP.ddiv (FP.i2d xa) (FP.l2d ca))) (FP.ddiv (FP.i2d xc) (FP.l2d cc))) (FP.i2d (((0 : Int32) + (1 : Int32)) + (1 : Int32))))), .second, .val (.double (FP.ddiv (FP.i2d xa) (FP.l2d ca))), .second, .val (.double (FP.ddiv (FP.dadd (FP.dadd FP.dconst0 (FP.ddiv (FP.i2d xa) (FP.l2d ca))) (FP.ddiv (FP.i2d xc) (FP.l2d cc))) (FP.i2d (((0 : Int32) + (1 : Int32)) + (1 : Int32))))), .second, .val (.double (FP.ddiv (FP.i2d xc) (FP.l2d cc))), .second]) rfl ?_
        refine g_aload C S at_362 (pc' := 364) rfl rfl rfl ?_
        refine g_iconst C S (0 : Int32) at_364 (pc' := 365) rfl rfl ?_
        refine g_daload C S (i := 0) (v := (.double (FP.dmul (FP.l2d qa) (FP.ddiv (FP.i2d xa) (FP.l2d ca))))) at_365 A_b170 (by decide) (by decide) hw0 (pc' := 366) rfl ?_
        refine g_lload C S at_366 (pc' := 368) rfl rfl ?_
        refine g_l2d C S at_368 (pc' := 369) rfl ?_
        refine g_dload C S at_369 (pc' := 371) rfl rfl ?_
        refine g_dmul C S at_371 (pc' := 372) rfl (nn_of (Jvm.Free.Fl.dmul_mag (Ka := 1088) (Kb := 1057) (Jvm.Free.Fl.l2d_mag _) (ddiv_mag (K := 1056) (L := 1023) (Jvm.Free.Fl.i2d_mag _) (l2d_big (own_nz hc53)) (by decide) (by decide)) (by decide) (by decide)) (by decide)) ?_
        refine g_dcmp C S at_372 (v := 0) (pc' := 373) rfl (dcmpV_self (nn_of (Jvm.Free.Fl.dmul_mag (Ka := 1088) (Kb := 1057) (Jvm.Free.Fl.l2d_mag _) (ddiv_mag (K := 1056) (L := 1023) (Jvm.Free.Fl.i2d_mag _) (l2d_big (own_nz hc53)) (by decide) (by decide)) (by decide) (by decide)) (by decide)) _) ?_
        refine g_if_ne C S at_373 (pc' := 408) (pf := 376) (by decide) (by decide) rfl (fun hc373 => absurd rfl hc373) (fun hc373 => ?_)
        refine g_aload C S at_376 (pc' := 378) rfl rfl rfl ?_
        refine g_iconst C S (1 : Int32) at_378 (pc' := 379) rfl rfl ?_
        refine g_daload C S (i := 1) (v := (.double (FP.dmul (FP.l2d qb) (FP.ddiv (FP.dadd (FP.dadd FP.dconst0 (FP.ddiv (FP.i2d xa) (FP.l2d ca))) (FP.ddiv (FP.i2d xc) (FP.l2d cc))) (FP.i2d (((0 : Int32) + (1 : Int32)) + (1 : Int32))))))) at_379 A_b170 (by decide) (by decide) hw1 (pc' := 380) rfl ?_
        refine g_lload C S at_380 (pc' := 382) rfl rfl ?_
        refine g_l2d C S at_382 (pc' := 383) rfl ?_
        refine g_dload C S at_383 (pc' := 385) rfl rfl ?_
        refine g_dmul C S at_385 (pc' := 386) rfl (nn_of (Jvm.Free.Fl.dmul_mag (Ka := 1088) (Kb := 1062) (Jvm.Free.Fl.l2d_mag _) (ddiv_mag (K := 1061) (L := 1023) (Jvm.Free.Fl.dadd_mag (K := 1059) (Jvm.Free.Fl.Mag64.mono (Jvm.Free.Fl.dadd_mag (K := 1057) (Jvm.Free.Fl.Mag64.mono own_mag0 (by decide)) (Jvm.Free.Fl.Mag64.mono (ddiv_mag (K := 1056) (L := 1023) (Jvm.Free.Fl.i2d_mag _) (l2d_big (own_nz hc53)) (by decide) (by decide)) (by decide)) (by decide)) (by decide)) (Jvm.Free.Fl.Mag64.mono (ddiv_mag (K := 1056) (L := 1023) (Jvm.Free.Fl.i2d_mag _) (l2d_big (own_nz hc98)) (by decide) (by decide)) (by decide)) (by decide)) (own_i2d (by decide)) (by decide) (by decide)) (by decide) (by decide)) (by decide)) ?_
        refine g_dcmp C S at_386 (v := 0) (pc' := 387) rfl (dcmpV_self (nn_of (Jvm.Free.Fl.dmul_mag (Ka := 1088) (Kb := 1062) (Jvm.Free.Fl.l2d_mag _) (ddiv_mag (K := 1061) (L := 1023) (Jvm.Free.Fl.dadd_mag (K := 1059) (Jvm.Free.Fl.Mag64.mono (Jvm.Free.Fl.dadd_mag (K := 1057) (Jvm.Free.Fl.Mag64.mono own_mag0 (by decide)) (Jvm.Free.Fl.Mag64.mono (ddiv_mag (K := 1056) (L := 1023) (Jvm.Free.Fl.i2d_mag _) (l2d_big (own_nz hc53)) (by decide) (by decide)) (by decide)) (by decide)) (by decide)) (Jvm.Free.Fl.Mag64.mono (ddiv_mag (K := 1056) (L := 1023) (Jvm.Free.Fl.i2d_mag _) (l2d_big (own_nz hc98)) (by decide) (by decide)) (by decide)) (by decide)) (own_i2d (by decide)) (by decide) (by decide)) (by decide) (by decide)) (by decide)) _) ?_
        refine g_if_ne C S at_387 (pc' := 408) (pf := 390) (by decide) (by decide) rfl (fun hc387 => absurd rfl hc387) (fun hc387 => ?_)
        refine g_aload C S at_390 (pc' := 392) rfl rfl rfl ?_
        refine g_iconst C S (2 : Int32) at_392 (pc' := 393) rfl rfl ?_
        refine g_daload C S (i := 2) (v := (.double (FP.dmul (FP.l2d qc) (FP.ddiv (FP.i2d xc) (FP.l2d cc))))) at_393 A_b170 (by decide) (by decide) hw2 (pc' := 394) rfl ?_
        refine g_lload C S at_394 (pc' := 396) rfl rfl ?_
        refine g_l2d C S at_396 (pc' := 397) rfl ?_
        refine g_dload C S at_397 (pc' := 399) rfl rfl ?_
        refine g_dmul C S at_399 (pc' := 400) rfl (nn_of (Jvm.Free.Fl.dmul_mag (Ka := 1088) (Kb := 1057) (Jvm.Free.Fl.l2d_mag _) (ddiv_mag (K := 1056) (L := 1023) (Jvm.Free.Fl.i2d_mag _) (l2d_big (own_nz hc98)) (by decide) (by decide)) (by decide) (by decide)) (by decide)) ?_
        refine g_dcmp C S at_400 (v := 0) (pc' := 401) rfl (dcmpV_self (nn_of (Jvm.Free.Fl.dmul_mag (Ka := 1088) (Kb := 1057) (Jvm.Free.Fl.l2d_mag _) (ddiv_mag (K := 1056) (L := 1023) (Jvm.Free.Fl.i2d_mag _) (l2d_big (own_nz hc98)) (by decide) (by decide)) (by decide) (by decide)) (by decide)) _) ?_
        refine g_if_ne C S at_401 (pc' := 408) (pf := 404) (by decide) (by decide) rfl (fun hc401 => absurd rfl hc401) (fun hc401 => ?_)
        refine g_iconst C S (1 : Int32) at_404 (pc' := 405) rfl rfl ?_
        refine g_goto C S at_405 (pc' := 409) (by decide) (by decide) ?_
        exact g_retZ C S at_409 (by decide) (by decide) (by decide) (rfl)
    · refine g_lload C S at_77 (pc' := 79) rfl rfl ?_
      refine g_bipush C S (16 : Int32) at_79 (pc' := 81) rfl rfl ?_
      refine g_lushr C S at_81 (pc' := 82) rfl ?_
      refine g_ldc2 C S at_82 (hw _ (List.mem_of_getElem? (i := 2) rfl)) (pc' := 85) rfl ?_
      refine g_land C S at_85 (pc' := 86) rfl ?_
      refine g_l2i C S at_86 (pc' := 87) rfl ?_
      obtain ⟨xb, e_xb⟩ : ∃ z, z = ((((q6.toUInt64 >>> ((16 : Int32) &&& 0x3f).toInt64.toUInt64).toInt64) &&& (65535 : Int64)).toInt32) := ⟨_, rfl⟩
      rw [← e_xb]
      refine g_i2d C S at_87 (pc' := 88) rfl ?_
      refine g_goto C S at_88 (pc' := 92) (by decide) (by decide) ?_
      refine g_dstore C S at_92 (pc' := 94) rfl (L' := #[.val (.long q1), .second, .val (.long q2), .second, .val (.long q3), .second, .val (.long q4), .second, .val (.long q5), .second, .val (.long q6), .second, .val (.long qa), .second, .val (.long qb), .second, .val (.long qc), .second, .val (.long ca), .second, .val (.long cb), .second, .val (.long cc), .second, .val (.double (FP.i2d xa)), .second, .val (.double (FP.i2d xb)), .second, .unset, .unset, .unset, .unset, .unset, .unset, .unset, .unset, .unset, .unset, .unset, .unset, .unset, .unset, .unset, .unset, .unset, .unset, .unset, .unset, .unset, .unset, .unset]) rfl ?_
      refine g_lload C S at_94 (pc' := 96) rfl rfl ?_
      refine g_lconst C S (0 : Int64) at_96 (pc' := 97) rfl rfl ?_
      refine g_lcmp C S at_97 (pc' := 98) rfl ?_
      refine g_lif_le C S at_98 (pc' := 115) (pf := 101) (by decide) (by decide) rfl (fun hc98 => ?_) (fun hc98 => ?_)
      · refine g_dconst0 C S at_115 (pc' := 116) rfl ?_
        refine g_dstore C S at_116 (pc' := 118) rfl (L' := #[.val (.long q1), .second, .val (.long q2), .second, .val (.long q3), .second, .val (.long q4), .second, .val (.long q5), .second, .val (.long q6), .second, .val (.long qa), .second, .val (.long qb), .second, .val (.long qc), .second, .val (.long ca), .second, .val (.long cb), .second, .val (.long cc), .second, .val (.double (FP.i2d xa)), .second, .val (.double (FP.i2d xb)), .second, .val (.double FP.dconst0), .second, .unset, .unset, .unset, .unset, .unset, .unset, .unset, .unset, .unset, .unset, .unset, .unset, .unset, .unset, .unset, .unset, .unset, .unset, .unset, .unset, .unset]) rfl ?_
        refine g_iconst C S (3 : Int32) at_118 (pc' := 119) rfl rfl ?_
        refine g_newarray C S (N := 3) (cap := 3) at_119 (hw _ (List.mem_of_getElem? (i := 3) rfl)) (by decide) (by decide) (by decide) (by decide) (by decide) (pc' := 121) rfl (fun T171 h171 a171 S g171 E171 A_a171 => ?_)
        have ge_a171 : n0 ≤ a171 := ge_of g171 Zn
        have Zn := Nat.le_trans Zn E171.1
        have A_a171 : Ary Z h171 a171 .long 3 (fun _ => (.long (0 : Int64))) := A_a171
        refine g_dup C S at_121 (pc' := 122) rfl rfl ?_
        refine g_iconst C S (0 : Int32) at_122 (pc' := 123) rfl rfl ?_
        refine g_lload C S at_123 (pc' := 125) rfl rfl ?_
        refine g_lastore C S (i := 0) at_125 A_a171 (by decide) (by decide) ge_a171 (pc' := 126) rfl (fun T172 h172 S W172 B172 => ?_)
        have Zn := Nat.le_trans Zn (Nat.le_of_eq W172.size.symm)
        have A_a171 := B172
        refine g_dup C S at_126 (pc' := 127) rfl rfl ?_
        refine g_iconst C S (1 : Int32) at_127 (pc' := 128) rfl rfl ?_
        refine g_lload C S at_128 (pc' := 130) rfl rfl ?_
        refine g_lastore C S (i := 1) at_130 A_a171 (by decide) (by decide) ge_a171 (pc' := 131) rfl (fun T173 h173 S W173 B173 => ?_)
        have Zn := Nat.le_trans Zn (Nat.le_of_eq W173.size.symm)
        have A_a171 := B173
        refine g_dup C S at_131 (pc' := 132) rfl rfl ?_
        refine g_iconst C S (2 : Int32) at_132 (pc' := 133) rfl rfl ?_
        refine g_lload C S at_133 (pc' := 135) rfl rfl ?_
        refine g_lastore C S (i := 2) at_135 A_a171 (by decide) (by decide) ge_a171 (pc' := 136) rfl (fun T174 h174 S W174 B174 => ?_)
        have Zn := Nat.le_trans Zn (Nat.le_of_eq W174.size.symm)
        have A_a171 := B174
        refine g_astore C S at_136 (pc' := 138) rfl rfl (L' := #[.val (.long q1), .second, .val (.long q2), .second, .val (.long q3), .second, .val (.long q4), .second, .val (.long q5), .second, .val (.long q6), .second, .val (.long qa), .second, .val (.long qb), .second, .val (.long qc), .second, .val (.long ca), .second, .val (.long cb), .second, .val (.long cc), .second, .val (.double (FP.i2d xa)), .second, .val (.double (FP.i2d xb)), .second, .val (.double FP.dconst0), .second, .val (.ref a171), .unset, .unset, .unset, .unset, .unset, .unset, .unset, .unset, .unset, .unset, .unset, .unset, .unset, .unset, .unset, .unset, .unset, .unset, .unset, .unset]) rfl ?_
        refine g_iconst C S (3 : Int32) at_138 (pc' := 139) rfl rfl ?_
        refine g_newarray C S (N := 3) (cap := 3) at_139 (hw _ (List.mem_of_getElem? (i := 3) rfl)) (by decide) (by decide) (by decide) (by decide) (by decide) (pc' := 141) rfl (fun T175 h175 a175 S g175 E175 A_a175 => ?_)
        have ne_a171_a175 : a171 ≠ a175 := ne_new g175 A_a171.lt
        have ge_a175 : n0 ≤ a175 := ge_of g175 Zn
        have Zn := Nat.le_trans Zn E175.1
        have A_a171 := A_a171.ext E175
        have A_a175 : Ary Z h175 a175 .long 3 (fun _ => (.long (0 : Int64))) := A_a175
        refine g_dup C S at_141 (pc' := 142) rfl rfl ?_
        refine g_iconst C S (0 : Int32) at_142 (pc' := 143) rfl rfl ?_
        refine g_lload C S at_143 (pc' := 145) rfl rfl ?_
        refine g_lastore C S (i := 0) at_145 A_a175 (by decide) (by decide) ge_a175 (pc' := 146) rfl (fun T176 h176 S W176 B176 => ?_)
        have Zn := Nat.le_trans Zn (Nat.le_of_eq W176.size.symm)
        have A_a171 := A_a171.other W176 ne_a171_a175
        have A_a175 := B176
        refine g_dup C S at_146 (pc' := 147) rfl rfl ?_
        refine g_iconst C S (1 : Int32) at_147 (pc' := 148) rfl rfl ?_
        refine g_lload C S at_148 (pc' := 150) rfl rfl ?_
        refine g_lastore C S (i := 1) at_150 A_a175 (by decide) (by decide) ge_a175 (pc' := 151) rfl (fun T177 h177 S W177 B177 => ?_)
        have Zn := Nat.le_trans Zn (Nat.le_of_eq W177.size.symm)
        have A_a171 := A_a171.other W177 ne_a171_a175
        have A_a175 := B177
        refine g_dup C S at_151 (pc' := 152) rfl rfl ?_
        refine g_iconst C S (2 : Int32) at_152 (pc' := 153) rfl rfl ?_
        refine g_lload C S at_153 (pc' := 155) rfl rfl ?_
        refine g_lastore C S (i := 2) at_155 A_a175 (by decide) (by decide) ge_a175 (pc' := 156) rfl (fun T178 h178 S W178 B178 => ?_)
        have Zn := Nat.le_trans Zn (Nat.le_of_eq W178.size.symm)
        have A_a171 := A_a171.other W178 ne_a171_a175
        have A_a175 := B178
        refine g_astore C S at_156 (pc' := 158) rfl rfl (L' := #[.val (.long q1), .second, .val (.long q2), .second, .val (.long q3), .second, .val (.long q4), .second, .val (.long q5), .second, .val (.long q6), .second, .val (.long qa), .second, .val (.long qb), .second, .val (.long qc), .second, .val (.long ca), .second, .val (.long cb), .second, .val (.long cc), .second, .val (.double (FP.i2d xa)), .second, .val (.double (FP.i2d xb)), .second, .val (.double FP.dconst0), .second, .val (.ref a171), .val (.ref a175), .unset, .unset, .unset, .unset, .unset, .unset, .unset, .unset, .unset, .unset, .unset, .unset, .unset, .unset, .unset, .unset, .unset, .unset, .unset]) rfl ?_
        refine g_iconst C S (3 : Int32) at_158 (pc' := 159) rfl rfl ?_
        refine g_newarray C S (N := 3) (cap := 3) at_159 (hw _ (List.mem_of_getElem? (i := 4) rfl)) (by decide) (by decide) (by decide) (by decide) (by decide) (pc' := 161) rfl (fun T179 h179 a179 S g179 E179 A_a179 => ?_)
        have ne_a171_a179 : a171 ≠ a179 := ne_new g179 A_a171.lt
        have ne_a175_a179 : a175 ≠ a179 := ne_new g179 A_a175.lt
        have ge_a179 : n0 ≤ a179 := ge_of g179 Zn
        have Zn := Nat.le_trans Zn E179.1
        have A_a171 := A_a171.ext E179
        have A_a175 := A_a175.ext E179
        have A_a179 : Ary Z h179 a179 .double 3 (fun _ => (.double 0)) := A_a179
        refine g_dup C S at_161 (pc' := 162) rfl rfl ?_
        refine g_iconst C S (0 : Int32) at_162 (pc' := 163) rfl rfl ?_
        refine g_dload C S at_163 (pc' := 165) rfl rfl ?_
        refine g_dastore C S (i := 0) at_165 A_a179 (by decide) (by decide) ge_a179 (pc' := 166) rfl (fun T180 h180 S W180 B180 => ?_)
        have Zn := Nat.le_trans Zn (Nat.le_of_eq W180.size.symm)
        have A_a171 := A_a171.other W180 ne_a171_a179
        have A_a175 := A_a175.other W180 ne_a175_a179
        have A_a179 := B180
        refine g_dup C S at_166 (pc' := 167) rfl rfl ?_
        refine g_iconst C S (1 : Int32) at_167 (pc' := 168) rfl rfl ?_
        refine g_dload C S at_168 (pc' := 170) rfl rfl ?_
        refine g_dastore C S (i := 1) at_170 A_a179 (by decide) (by decide) ge_a179 (pc' := 171) rfl (fun T181 h181 S W181 B181 => ?_)
        have Zn := Nat.le_trans Zn (Nat.le_of_eq W181.size.symm)
        have A_a171 := A_a171.other W181 ne_a171_a179
        have A_a175 := A_a175.other W181 ne_a175_a179
        have A_a179 := B181
        refine g_dup C S at_171 (pc' := 172) rfl rfl ?_
        refine g_iconst C S (2 : Int32) at_172 (pc' := 173) rfl rfl ?_
        refine g_dload C S at_173 (pc' := 175) rfl rfl ?_
        refine g_dastore C S (i := 2) at_175 A_a179 (by decide) (by decide) ge_a179 (pc' := 176) rfl (fun T182 h182 S W182 B182 => ?_)
        have Zn := Nat.le_trans Zn (Nat.le_of_eq W182.size.symm)
        have A_a171 := A_a171.other W182 ne_a171_a179
        have A_a175 := A_a175.other W182 ne_a175_a179
        have A_a179 := B182
        refine g_astore C S at_176 (pc' := 178) rfl rfl (L' := #[.val (.long q1), .second, .val (.long q2), .second, .val (.long q3), .second, .val (.long q4), .second, .val (.long q5), .second, .val (.long q6), .second, .val (.long qa), .second, .val (.long qb), .second, .val (.long qc), .second, .val (.long ca), .second, .val (.long cb), .second, .val (.long cc), .second, .val (.double (FP.i2d xa)), .second, .val (.double (FP.i2d xb)), .second, .val (.double FP.dconst0), .second, .val (.ref a171), .val (.ref a175), .val (.ref a179), .unset, .unset, .unset, .unset, .unset, .unset, .unset, .unset, .unset, .unset, .unset, .unset, .unset, .unset, .unset, .unset, .unset, .unset]) rfl ?_
        refine g_aload C S at_178 (pc' := 180) rfl rfl rfl ?_
        refine g_aload C S at_180 (pc' := 182) rfl rfl rfl ?_
        refine g_aload C S at_182 (pc' := 184) rfl rfl rfl ?_
        refine g_callS C S (rm := ({ frames := 1, cells := 2, slots := 6, locals := 20 } : Room)) (W := 0) at_184 (hw _ (List.mem_of_getElem? (i := 5) rfl)) (hw _ (List.mem_of_getElem? (i := 6) rfl)) (hw _ (List.mem_of_getElem? (i := 7) rfl)) (hw _ (List.mem_of_getElem? (i := 8) rfl)) (by decide) (c_wt110 l Z a0 hw a171 a175 a179 h182 n0 ca cb cc (FP.i2d xa) (FP.i2d xb) FP.dconst0 _ _ (Jvm.Free.Fl.i2d_mag _) (Jvm.Free.Fl.i2d_mag _) own_mag0 rfl rfl rfl rfl rfl rfl qa qb qc _ rfl rfl rfl hc53 hc74 hc98 Zn A_a171 A_a175 A_a179) (argsL := [(.ref a171), (.ref a175), (.ref a179)]) (r := []) rfl (lenOf pd_1 rfl) rfl (Nat.le_of_eq rfl) (by decide) (by decide) (by decide) (by decide) (pc' := 187) rfl (fun T183 h183 v183 q183 S => ?_)
        obtain ⟨b183, fw, rfl, ge_b183, sz_b183, A_b183, hw0, hw1, hw2⟩ := q183
        show Gl p e below s _ n0 _ T183 (mkF m 187 #[.val (.long q1), .second, .val (.long q2), .second, .val (.long q3), .second, .val (.long q4), .second, .val (.long q5), .second, .val (.long q6), .second, .val (.long qa), .second, .val (.long qb), .second, .val (.long qc), .second, .val (.long ca), .second, .val (.long cb), .second, .val (.long cc), .second, .val (.double (FP.i2d xa)), .second, .val (.double (FP.i2d xb)), .second, .val (.double FP.dconst0), .second, .val (.ref a171), .val (.ref a175), .val (.ref a179), .unset, .unset, .unset, .unset, .unset, .unset, .unset, .unset, .unset, .unset, .unset, .unset, .unset, .unset, .unset, .unset, .unset, .unset] [(.ref b183)])
        refine g_astore C S at_187 (pc' := 189) rfl rfl (L' := #[.val (.long q1), .second, .val (.long q2), .second, .val (.long q3), .second, .val (.long q4), .second, .val (.long q5), .second, .val (.long q6), .second, .val (.long qa), .second, .val (.long qb), .second, .val (.long qc), .second, .val (.long ca), .second, .val (.long cb), .second, .val (.long cc), .second, .val (.double (FP.i2d xa)), .second, .val (.double (FP.i2d xb)), .second, .val (.double FP.dconst0), .second, .val (.ref a171), .val (.ref a175), .val (.ref a179), .val (.ref b183), .unset, .unset, .unset, .unset, .unset, .unset, .unset, .unset, .unset, .unset, .unset, .unset, .unset, .unset, .unset, .unset, .unset]) rfl ?_
        refine g_aload C S at_189 (pc' := 191) rfl rfl rfl ?_
        refine g_arraylength C S (x := (3 : Int32)) at_191 A_b183 (by decide) (pc' := 192) rfl ?_
        refine g_iconst C S (3 : Int32) at_192 (pc' := 193) rfl rfl ?_
        refine g_icmp_eq C S at_193 (pc' := 198) (pf := 196) (by decide) (by decide) rfl (fun hc193 => ?_) (fun hc193 => absurd rfl hc193)
        refine g_iconst C S (0 : Int32) at_198 (pc' := 199) rfl rfl ?_
        refine g_istore C S at_199 (pc' := 201) rfl (L' := #[.val (.long q1), .second, .val (.long q2), .second, .val (.long q3), .second, .val (.long q4), .second, .val (.long q5), .second, .val (.long q6), .second, .val (.long qa), .second, .val (.long qb), .second, .val (.long qc), .second, .val (.long ca), .second, .val (.long cb), .second, .val (.long cc), .second, .val (.double (FP.i2d xa)), .second, .val (.double (FP.i2d xb)), .second, .val (.double FP.dconst0), .second, .val (.ref a171), .val (.ref a175), .val (.ref a179), .val (.ref b183), .val (.int (0 : Int32)), .unset, .unset, .unset, .unset, .unset, .unset, .unset, .unset, .unset, .unset, .unset, .unset, .unset, .unset, .unset, .unset]) rfl ?_
        refine g_dconst0 C S at_201 (pc' := 202) rfl ?_
        refine g_dstore C S at_202 (pc' := 204) rfl (L' := #[.val (.long q1), .second, .val (.long q2), .second, .val (.long q3), .second, .val (.long q4), .second, .val (.long q5), .second, .val (.long q6), .second, .val (.long qa), .second, .val (.long qb), .second, .val (.long qc), .second, .val (.long ca), .second, .val (.long cb), .second, .val (.long cc), .second, .val (.double (FP.i2d xa)), .second, .val (.double (FP.i2d xb)), .second, .val (.double FP.dconst0), .second, .val (.ref a171), .val (.ref a175), .val (.ref a179), .val (.ref b183), .val (.int (0 : Int32)), .val (.double FP.dconst0), .second, .unset, .unset, .unset, .unset, .unset, .unset, .unset, .unset, .unset, .unset, .unset, .unset, .unset, .unset]) rfl ?_
        refine g_dconst0 C S at_204 (pc' := 205) rfl ?_
        refine g_dstore C S at_205 (pc' := 207) rfl (L' := #[.val (.long q1), .second, .val (.long q2), .second, .val (.long q3), .second, .val (.long q4), .second, .val (.long q5), .second, .val (.long q6), .second, .val (.long qa), .second, .val (.long qb), .second, .val (.long qc), .second, .val (.long ca), .second, .val (.long cb), .second, .val (.long cc), .second, .val (.double (FP.i2d xa)), .second, .val (.double (FP.i2d xb)), .second, .val (.double FP.dconst0), .second, .val (.ref a171), .val (.ref a175), .val (.ref a179), .val (.ref b183), .val (.int (0 : Int32)), .val (.double FP.dconst0), .second, .val (.double FP.dconst0), .second, .unset, .unset, .unset, .unset, .unset, .unset, .unset, .unset, .unset, .unset, .unset, .unset]) rfl ?_
        refine g_dconst0 C S at_207 (pc' := 208) rfl ?_
        refine g_dstore C S at_208 (pc' := 210) rfl (L' := #[.val (.long q1), .second, .val (.long q2), .second, .val (.long q3), .second, .val (.long q4), .second, .val (.long q5), .second, .val (.long q6), .second, .val (.long qa), .second, .val (.long qb), .second, .val (.long qc), .second, .val (.long ca), .second, .val (.long cb), .second, .val (.long cc), .second, .val (.double (FP.i2d xa)), .second, .val (.double (FP.i2d xb)), .second, .val (.double FP.dconst0), .second, .val (.ref a171), .val (.ref a175), .val (.ref a179), .val (.ref b183), .val (.int (0 : Int32)), .val (.double FP.dconst0), .second, .val (.double FP.dconst0), .second, .val (.double FP.dconst0), .second, .unset, .unset, .unset, .unset, .unset, .unset, .unset, .unset, .unset, .unset]) rfl ?_
        refine g_dconst0 C S at_210 (pc' := 211) rfl ?_
        refine g_dstore C S at_211 (pc' := 213) rfl (L' := #[.val (.long q1), .second, .val (.long q2), .second, .val (.long q3), .second, .val (.long q4), .second, .val (.long q5), .second, .val (.long q6), .second, .val (.long qa), .second, .val (.long qb), .second, .val (.long qc), .second, .val (.long ca), .second, .val (.long cb), .second, .val (.long cc), .second, .val (.double (FP.i2d xa)), .second, .val (.double (FP.i2d xb)), .second, .val (.double FP.dconst0), .second, .val (.ref a171), .val (.ref a175), .val (.ref a179), .val (.ref b183), .val (.int (0 : Int32)), .val (.double FP.dconst0), .second, .val (.double FP.dconst0), .second, .val (.double FP.dconst0), .second, .val (.double FP.dconst0), .second, .unset, .unset, .unset, .unset, .unset, .unset, .unset, .unset]) rfl ?_
        refine g_lload C S at_213 (pc' := 215) rfl rfl ?_
        refine g_lconst C S (0 : Int64) at_215 (pc' := 216) rfl rfl ?_
        refine g_lcmp C S at_216 (pc' := 217) rfl ?_
        refine g_lif_le C S at_217 (pc' := 241) (pf := 220) (by decide) (by decide) rfl (fun hc217 => absurd hc53 hc217) (fun hc217 => ?_)
        refine g_dload C S at_220 (pc' := 222) rfl rfl ?_
        refine g_lload C S at_222 (pc' := 224) rfl rfl ?_
        refine g_l2d C S at_224 (pc' := 225) rfl ?_
        refine g_ddiv C S at_225 (pc' := 226) rfl (nn_of (ddiv_mag (K := 1056) (L := 1023) (Jvm.Free.Fl.i2d_mag _) (l2d_big (own_nz hc53)) (by decide) (by decide)) (by decide)) ?_
        refine g_dstore C S at_226 (pc' := 228) rfl (L' := #[.val (.long q1), .second, .val (.long q2), .second, .val (.long q3), .second, .val (.long q4), .second, .val (.long q5), .second, .val (.long q6), .second, .val (.long qa), .second, .val (.long qb), .second, .val (.long qc), .second, .val (.long ca), .second, .val (.long cb), .second, .val (.long cc), .second, .val (.double (FP.i2d xa)), .second, .val (.double (FP.i2d xb)), .second, .val (.double FP.dconst0), .second, .val (.ref a171), .val (.ref a175), .val (.ref a179), .val (.ref b183), .val (.int (0 : Int32)), .val (.double FP.dconst0), .second, .val (.double (FP.ddiv (FP.i2d xa) (FP.l2d ca))), .second, .val (.double FP.dconst0), .second, .val (.double FP.dconst0), .second, .unset, .unset, .unset, .unset, .unset, .unset, .unset, .unset]) rfl ?_
        refine g_dload C S at_228 (pc' := 230) rfl rfl ?_
        refine g_dload C S at_230 (pc' := 232) rfl rfl ?_
        refine g_dadd C S at_232 (pc' := 233) rfl (nn_of (Jvm.Free.Fl.dadd_mag (K := 1057) (Jvm.Free.Fl.Mag64.mono own_mag0 (by decide)) (Jvm.Free.Fl.Mag64.mono (ddiv_mag (K := 1056) (L := 1023) (Jvm.Free.Fl.i2d_mag _) (l2d_big (own_nz hc53)) (by decide) (by decide)) (by decide)) (by decide)) (by decide)) ?_
        refine g_dstore C S at_233 (pc' := 235) rfl (L' := #[.val (.long q1), .second, .val (.long q2), .second, .val (.long q3), .second, .val (.long q4), .second, .val (.long q5), .second, .val (.long q6), .second, .val (.long qa), .second, .val (.long qb), .second, .val (.long qc), .second, .val (.long ca), .second, .val (.long cb), .second, .val (.long cc), .second, .val (.double (FP.i2d xa)), .second, .val (.double (FP.i2d xb)), .second, .val (.double FP.dconst0), .second, .val (.ref a171), .val (.ref a175), .val (.ref a179), .val (.ref b183), .val (.int (0 : Int32)), .val (.double (FP.dadd FP.dconst0 (FP.ddiv (FP.i2d xa) (FP.l2d ca)))), .second, .val (.double (FP.ddiv (FP.i2d xa) (FP.l2d ca))), .second, .val (.double FP.dconst0), .second, .val (.double FP.dconst0), .second, .unset, .unset, .unset, .unset, .unset, .unset, .unset, .unset]) rfl ?_
        refine g_iload C S at_235 (pc' := 237) rfl rfl ?_
        refine g_iconst C S (1 : Int32) at_237 (pc' := 238) rfl rfl ?_
        refine g_iadd C S at_238 (pc' := 239) rfl ?_
        refine g_istore C S at_239 (pc' := 241) rfl (L' := #[.val (.long q1), .second, .val (.long q2), .second, .val (.long q3), .second, .val (.long q4), .second, .val (.long q5), .second, .val (.long q6), .second, .val (.long qa), .second, .val (.long qb), .second, .val (.long qc), .second, .val (.long ca), .second, .val (.long cb), .second, .val (.long cc), .second, .val (.double (FP.i2d xa)), .second, .val (.double (FP.i2d xb)), .second, .val (.double FP.dconst0), .second, .val (.ref a171), .val (.ref a175), .val (.ref a179), .val (.ref b183), .val (.int ((0 : Int32) + (1 : Int32))), .val (.double (FP.dadd FP.dconst0 (FP.ddiv (FP.i2d xa) (FP.l2d ca)))), .second, .val (.double (FP.ddiv (FP.i2d xa) (FP.l2d ca))), .second, .val (.double FP.dconst0), .second, .val (.double FP.dconst0), .second, .unset, .unset, .unset, .unset, .unset, .unset, .unset, .unset]) rfl ?_
        refine g_lload C S at_241 (pc' := 243) rfl rfl ?_
        refine g_lconst C S (0 : Int64) at_243 (pc' := 244) rfl rfl ?_
        refine g_lcmp C S at_244 (pc' := 245) rfl ?_
        refine g_lif_le C S at_245 (pc' := 269) (pf := 248) (by decide) (by decide) rfl (fun hc245 => absurd hc74 hc245) (fun hc245 => ?_)
        refine g_dload C S at_248 (pc' := 250) rfl rfl ?_
        refine g_lload C S at_250 (pc' := 252) rfl rfl ?_
        refine g_l2d C S at_252 (pc' := 253) rfl ?_
        refine g_ddiv C S at_253 (pc' := 254) rfl (nn_of (ddiv_mag (K := 1056) (L := 1023) (Jvm.Free.Fl.i2d_mag _) (l2d_big (own_nz hc74)) (by decide) (by decide)) (by decide)) ?_
        refine g_dstore C S at_254 (pc' := 256) rfl (L' := #[.val (.long q1), .second, .val (.long q2), .second, .val (.long q3), .second, .val (.long q4), .second, .val (.long q5), .second, .val (.long q6), .second, .val (.long qa), .second, .val (.long qb), .second, .val (.long qc), .second, .val (.long ca), .second, .val (.long cb), .second, .val (.long cc), .second, .val (.double (FP.i2d xa)), .second, .val (.double (FP.i2d xb)), .second, .val (.double FP.dconst0), .second, .val (.ref a171), .val (.ref a175), .val (.ref a179), .val (.ref b183), .val (.int ((0 : Int32) + (1 : Int32))), .val (.double (FP.dadd FP.dconst0 (FP.ddiv (FP.i2d xa) (FP.l2d ca)))), .second, .val (.double (FP.ddiv (FP.i2d xa) (FP.l2d ca))), .second, .val (.double (FP.ddiv (FP.i2d xb) (FP.l2d cb))), .second, .val (.double FP.dconst0), .second, .unset, .unset, .unset, .unset, .unset, .unset, .unset, .unset]) rfl ?_
        refine g_dload C S at_256 (pc' := 258) rfl rfl ?_
        refine g_dload C S at_258 (pc' := 260) rfl rfl ?_
        refine g_dadd C S at_260 (pc' := 261) rfl (nn_of (Jvm.Free.Fl.dadd_mag (K := 1059) (Jvm.Free.Fl.Mag64.mono (Jvm.Free.Fl.dadd_mag (K := 1057) (Jvm.Free.Fl.Mag64.mono own_mag0 (by decide)) (Jvm.Free.Fl.Mag64.mono (ddiv_mag (K := 1056) (L := 1023) (Jvm.Free.Fl.i2d_mag _) (l2d_big (own_nz hc53)) (by decide) (by decide)) (by decide)) (by decide)) (by decide)) (Jvm.Free.Fl.Mag64.mono (ddiv_mag (K := 1056) (L := 1023) (Jvm.Free.Fl.i2d_mag _) (l2d_big (own_nz hc74)) (by decide) (by decide)) (by decide)) (by decide)) (by decide)) ?_
        refine g_dstore C S at_261 (pc' := 263) rfl (L' := #[.val (.long q1), .second, .val (.long q2), .second, .val (.long q3), .second, .val (.long q4), .second, .val (.long q5), .second, .val (.long q6), .second, .val (.long qa), .second, .val (.long qb), .second, .val (.long qc), .second, .val (.long ca), .second, .val (.long cb), .second, .val (.long cc), .second, .val (.double (FP.i2d xa)), .second, .val (.double (FP.i2d xb)), .second, .val (.double FP.dconst0), .second, .val (.ref a171), .val (.ref a175), .val (.ref a179), .val (.ref b183), .val (.int ((0 : Int32) + (1 : Int32))), .val (.double (FP.dadd (FP.dadd FP.dconst0 (FP.ddiv (FP.i2d xa) (FP.l2d ca))) (FP.ddiv (FP.i2d xb) (FP.l2d cb)))), .second, .val (.double (FP.ddiv (FP.i2d xa) (FP.l2d ca))), .second, .val (.double (FP.ddiv (FP.i2d xb) (FP.l2d cb))), .second, .val (.double FP.dconst0), .second, .unset, .unset, .unset, .unset, .unset, .unset, .unset, .unset]) rfl ?_
        refine g_iload C S at_263 (pc' := 265) rfl rfl ?_
        refine g_iconst C S (1 : Int32) at_265 (pc' := 266) rfl rfl ?_
        refine g_iadd C S at_266 (pc' := 267) rfl ?_
        refine g_istore C S at_267 (pc' := 269) rfl (L' := #[.val (.long q1), .second, .val (.long q2), .second, .val (.long q3), .second, .val (.long q4), .second, .val (.long q5), .second, .val (.long q6), .second, .val (.long qa), .second, .val (.long qb), .second, .val (.long qc), .second, .val (.long ca), .second, .val (.long cb), .second, .val (.long cc), .second, .val (.double (FP.i2d xa)), .second, .val (.double (FP.i2d xb)), .second, .val (.double FP.dconst0), .second, .val (.ref a171), .val (.ref a175), .val (.ref a179), .val (.ref b183), .val (.int (((0 : Int32) + (1 : Int32)) + (1 : Int32))), .val (.double (FP.dadd (FP.dadd FP.dconst0 (FP.ddiv (FP.i2d xa) (FP.l2d ca))) (FP.ddiv (FP.i2d xb) (FP.l2d cb)))), .second, .val (.double (FP.ddiv (FP.i2d xa) (FP.l2d ca))), .second, .val (.double (FP.ddiv (FP.i2d xb) (FP.l2d cb))), .second, .val (.double FP.dconst0), .second, .unset, .unset, .unset, .unset, .unset, .unset, .unset, .unset]) rfl ?_
        refine g_lload C S at_269 (pc' := 271) rfl rfl ?_
        refine g_lconst C S (0 : Int64) at_271 (pc' := 272) rfl rfl ?_
        refine g_lcmp C S at_272 (pc' := 273) rfl ?_
        refine g_lif_le C S at_273 (pc' := 297) (pf := 276) (by decide) (by decide) rfl (fun hc273 => ?_) (fun hc273 => absurd hc273 hc98)
        refine g_iload C S at_297 (pc' := 299) rfl rfl ?_
        refine g_if_ne C S at_299 (pc' := 306) (pf := 302) (by decide) (by decide) rfl (fun hc299 => ?_) (fun hc299 => absurd hc299 (by decide))
        refine g_dload C S at_306 (pc' := 308) rfl rfl ?_
        refine g_iload C S at_308 (pc' := 310) rfl rfl ?_
        refine g_i2d C S at_310 (pc' := 311) rfl ?_
        refine g_ddiv C S at_311 (pc' := 312) rfl (nn_of (ddiv_mag (K := 1061) (L := 1023) (Jvm.Free.Fl.dadd_mag (K := 1059) (Jvm.Free.Fl.Mag64.mono (Jvm.Free.Fl.dadd_mag (K := 1057) (Jvm.Free.Fl.Mag64.mono own_mag0 (by decide)) (Jvm.Free.Fl.Mag64.mono (ddiv_mag (K := 1056) (L := 1023) (Jvm.Free.Fl.i2d_mag _) (l2d_big (own_nz hc53)) (by decide) (by decide)) (by decide)) (by decide)) (by decide)) (Jvm.Free.Fl.Mag64.mono (ddiv_mag (K := 1056) (L := 1023) (Jvm.Free.Fl.i2d_mag _) (l2d_big (own_nz hc74)) (by decide) (by decide)) (by decide)) (by decide)) (own_i2d (by decide)) (by decide) (by decide)) (by decide)) ?_
        refine g_dstore C S at_312 (pc' := 314) rfl (L' := #[.val (.long q1), .second, .val (.long q2), .second, .val (.long q3), .second, .val (.long q4), .second, .val (.long q5), .second, .val (.long q6), .second, .val (.long qa), .second, .val (.long qb), .second, .val (.long qc), .second, .val (.long ca), .second, .val (.long cb), .second, .val (.long cc), .second, .val (.double (FP.i2d xa)), .second, .val (.double (FP.i2d xb)), .second, .val (.double FP.dconst0), .second, .val (.ref a171), .val (.ref a175), .val (.ref a179), .val (.ref b183), .val (.int (((0 : Int32) + (1 : Int32)) + (1 : Int32))), .val (.double (FP.dadd (FP.dadd FP.dconst0 (FP.ddiv (FP.i2d xa) (FP.l2d ca))) (FP.ddiv (FP.i2d xb) (FP.l2d cb)))), .second, .val (.double (FP.ddiv (FP.i2d xa) (FP.l2d ca))), .second, .val (.double (FP.ddiv (FP.i2d xb) (FP.l2d cb))), .second, .val (.double FP.dconst0), .second, .val (.double (FP.ddiv (FP.dadd (FP.dadd FP.dconst0 (FP.ddiv (FP.i2d xa) (FP.l2d ca))) (FP.ddiv (FP.i2d xb) (FP.l2d cb))) (FP.i2d (((0 : Int32) + (1 : Int32)) + (1 : Int32))))), .second, .unset, .unset, .unset, .unset, .unset, .unset]) rfl ?_
        refine g_lload C S at_314 (pc' := 316) rfl rfl ?_
        refine g_lconst C S (0 : Int64) at_316 (pc' := 317) rfl rfl ?_
        refine g_lcmp C S at_317 (pc' := 318) rfl ?_
        refine g_lif_le C S at_318 (pc' := 326) (pf := 321) (by decide) (by decide) rfl (fun hc318 => absurd hc53 hc318) (fun hc318 => ?_)
        refine g_dload C S at_321 (pc' := 323) rfl rfl ?_
        refine g_goto C S at_323 (pc' := 328) (by decide) (by decide) ?_
        refine g_dstore C S at_328 (pc' := 330) rfl (L' := #[.val (.long q1), .second, .val (.long q2), .second, .val (.long q3), .second, .val (.long q4), .second, .val (.long q5), .second, .val (.long q6), .second, .val (.long qa), .second, .val (.long qb), .second, .val (.long qc), .second, .val (.long ca), .second, .val (.long cb), .second, .val (.long cc), .second, .val (.double (FP.i2d xa)), .second, .val (.double (FP.i2d xb)), .second, .val (.double FP.dconst0), .second, .val (.ref a171), .val (.ref a175), .val (.ref a179), .val (.ref b183), .val (.int (((0 : Int32) + (1 : Int32)) + (1 : Int32))), .val (.double (FP.dadd (FP.dadd FP.dconst0 (FP.ddiv (FP.i2d xa) (FP.l2d ca))) (FP.ddiv (FP.i2d xb) (FP.l2d cb)))), .second, .val (.double (FP.ddiv (FP.i2d xa) (FP.l2d ca))), .second, .val (.double (FP.ddiv (FP.i2d xb) (FP.l2d cb))), .second, .val (.double FP.dconst0), .second, .val (.double (FP.ddiv (FP.dadd (FP.dadd FP.dconst0 (FP.ddiv (FP.i2d xa) (FP.l2d ca))) (FP.ddiv (FP.i2d xb) (FP.l2d cb))) (FP.i2d (((0 : Int32) + (1 : Int32)) + (1 : Int32))))), .second, .val (.double (FP.ddiv (FP.i2d xa) (FP.l2d ca))), .second, .unset, .unset, .unset, .unset]) rfl ?_
        refine g_lload C S at_330 (pc' := 332) rfl rfl ?_
        refine g_lconst C S (0 : Int64) at_332 (pc' := 333) rfl rfl ?_
        refine g_lcmp C S at_333 (pc' := 334) rfl ?_
        refine g_lif_le C S at_334 (pc' := 342) (pf := 337) (by decide) (by decide) rfl (fun hc334 => absurd hc74 hc334) (fun hc334 => ?_)
        refine g_dload C S at_337 (pc' := 339) rfl rfl ?_
        refine g_goto C S at_339 (pc' := 344) (by decide) (by decide) ?_
        refine g_dstore C S at_344 (pc' := 346) rfl (L' := #[.val (.long q1), .second, .val (.long q2), .second, .val (.long q3), .second, .val (.long q4), .second, .val (.long q5), .second, .val (.long q6), .second, .val (.long qa), .second, .val (.long qb), .second, .val (.long qc), .second, .val (.long ca), .second, .val (.long cb), .second, .val (.long cc), .second, .val (.double (FP.i2d xa)), .second, .val (.double (FP.i2d xb)), .second, .val (.double FP.dconst0), .second, .val (.ref a171), .val (.ref a175), .val (.ref a179), .val (.ref b183), .val (.int (((0 : Int32) + (1 : Int32)) + (1 : Int32))), .val (.double (FP.dadd (FP.dadd FP.dconst0 (FP.ddiv (FP.i2d xa) (FP.l2d ca))) (FP.ddiv (FP.i2d xb) (FP.l2d cb)))), .second, .val (.double (FP.ddiv (FP.i2d xa) (FP.l2d ca))), .second, .val (.double (FP.ddiv (FP.i2d xb) (FP.l2d cb))), .second, .val (.double FP.dconst0), .second, .val (.double (FP.ddiv (FP.dadd (FP.dadd FP.dconst0 (FP.ddiv (FP.i2d xa) (FP.l2d ca))) (FP.ddiv (FP.i2d xb) (FP.l2d cb))) (FP.i2d (((0 : Int32) + (1 : Int32)) + (1 : Int32))))), .second, .val (.double (FP.ddiv (FP.i2d xa) (FP.l2d ca))), .second, .val (.double (FP.ddiv (FP.i2d xb) (FP.l2d cb))), .second, .unset, .unset]) rfl ?_
        refine g_lload C S at_346 (pc' := 348) rfl rfl ?_
        refine g_lconst C S (0 : Int64) at_348 (pc' := 349) rfl rfl ?_
        refine g_lcmp C S at_349 (pc' := 350) rfl ?_
        refine g_lif_le C S at_350 (pc' := 358) (pf := 353) (by decide) (by decide) rfl (fun hc350 => ?_) (fun hc350 => absurd hc350 hc98)
        refine g_dload C S at_358 (pc' := 360) rfl rfl ?_
        refine g_dstore C S at_360 (pc' := 362) rfl (L' := #[.val (.long q1), .second, .val (.long q2), .second, .val (.long q3), .second, .val (.long q4), .second, .val (.long q5), .second, .val (.long q6), .second, .val (.long qa), .second, .val (.long qb), .second, .val (.long qc), .second, .val (.long ca), .second, .val (.long cb), .second, .val (.long cc), .second, .val (.double (FP.i2d xa)), .second, .val (.double (FP.i2d xb)), .second, .val (.double FP.dconst0), .second, .val (.ref a171), .val (.ref a175), .val (.ref a179), .val (.ref b183), .val (.int (((0 : Int32) + (1 : Int32)) + (1 : Int32))), .val (.double (FP.dadd (FP.dadd FP.dconst0 (FP.ddiv (FP.i2d xa) (FP.l2d ca))) (FP.ddiv (FP.i2d xb) (FP.l2d cb)))), .second, .val (.double (FP.ddiv (FP.i2d xa) (FP.l2d ca))), .second, .val (.double (FP.ddiv (FP.i2d xb) (FP.l2d cb))), .second, .val (.double FP.dconst0), .second, .val (.double (FP.ddiv (FP.dadd (FP.dadd FP.dconst0 (FP.ddiv (FP.i2d xa) (FP.l2d ca))) (FP.ddiv (FP.i2d xb) (FP.l2d cb))) (FP.i2d (((0 : Int32) + (1 : Int32)) + (1 : Int32))))), .second, .val (.double (FP.ddiv (FP.i2d xa) (FP.l2d ca))), .second, .val (.double (FP.ddiv (FP.i2d xb) (FP.l2d cb))), .second, .val (.double (FP.ddiv (FP.dadd (FP.dadd FP.dconst0 (FP.ddiv (FP.i2d xa) (FP.l2d ca))) (FP.ddiv (FP.i2d xb) (FP.l2d cb))) (FP.i2d (((0 : Int32) + (1 : Int32)) + (1 : Int32))))), .second]) rfl ?_
        refine g_aload C S at_362 (pc' := 364) rfl rfl rfl ?_
        refine g_iconst C S (0 : Int32) at_364 (pc' := 365) rfl rfl ?_
        refine g_daload C S (i := 0) (v := (.double (FP.dmul (FP.l2d qa) (FP.ddiv (FP.i2d xa) (FP.l2d ca))))) at_365 A_b183 (by decide) (by decide) hw0 (pc' := 366) rfl ?_
        refine g_lload C S at_366 (pc' := 368) rfl rfl ?_
        refine g_l2d C S at_368 (pc' := 369) rfl ?_
        refine g_dload C S at_369 (pc' := 371) rfl rfl ?_
        refine g_dmul C S at_371 (pc' := 372) rfl (nn_of (Jvm.Free.Fl.dmul_mag (Ka := 1088) (Kb := 1057) (Jvm.Free.Fl.l2d_mag _) (ddiv_mag (K := 1056) (L := 1023) (Jvm.Free.Fl.i2d_mag _) (l2d_big (own_nz hc53)) (by decide) (by decide)) (by decide) (by decide)) (by decide)) ?_
        refine g_dcmp C S at_372 (v := 0) (pc' := 373) rfl (dcmpV_self (nn_of (Jvm.Free.Fl.dmul_mag (Ka := 1088) (Kb := 1057) (Jvm.Free.Fl.l2d_mag _) (ddiv_mag (K := 1056) (L := 1023) (Jvm.Free.Fl.i2d_mag _) (l2d_big (own_nz hc53)) (by decide) (by decide)) (by decide) (by decide)) (by decide)) _) ?_
        refine g_if_ne C S at_373 (pc' := 408) (pf := 376) (by decide) (by decide) rfl (fun hc373 => absurd rfl hc373) (fun hc373 => ?_)
        refine g_aload C S at_376 (pc' := 378) rfl rfl rfl ?_
        refine g_iconst C S (1 : Int32) at_378 (pc' := 379) rfl rfl ?_
        refine g_daload C S (i := 1) (v := (.double (FP.dmul (FP.l2d qb) (FP.ddiv (FP.i2d xb) (FP.l2d cb))))) at_379 A_b183 (by decide) (by decide) hw1 (pc' := 380) rfl ?_
        refine g_lload C S at_380 (pc' := 382) rfl rfl ?_
        refine g_l2d C S at_382 (pc' := 383) rfl ?_
        refine g_dload C S at_383 (pc' := 385) rfl rfl ?_
        refine g_dmul C S at_385 (pc' := 386) rfl (nn_of (Jvm.Free.Fl.dmul_mag (Ka := 1088) (Kb := 1057) (Jvm.Free.Fl.l2d_mag _) (ddiv_mag (K := 1056) (L := 1023) (Jvm.Free.Fl.i2d_mag _) (l2d_big (own_nz hc74)) (by decide) (by decide)) (by decide) (by decide)) (by decide)) ?_
        refine g_dcmp C S at_386 (v := 0) (pc' := 387) rfl (dcmpV_self (nn_of (Jvm.Free.Fl.dmul_mag (Ka := 1088) (Kb := 1057) (Jvm.Free.Fl.l2d_mag _) (ddiv_mag (K := 1056) (L := 1023) (Jvm.Free.Fl.i2d_mag _) (l2d_big (own_nz hc74)) (by decide) (by decide)) (by decide) (by decide)) (by decide)) _) ?_
        refine g_if_ne C S at_387 (pc' := 408) (pf := 390) (by decide) (by decide) rfl (fun hc387 => absurd rfl hc387) (fun hc387 => ?_)
        refine g_aload C S at_390 (pc' := 392) rfl rfl rfl ?_
        refine g_iconst C S (2 : Int32) at_392 (pc' := 393) rfl rfl ?_
        refine g_daload C S (i := 2) (v := (.double (FP.dmul (FP.l2d qc) (FP.ddiv (FP.dadd (FP.dadd FP.dconst0 (FP.ddiv (FP.i2d xa) (FP.l2d ca))) (FP.ddiv (FP.i2d xb) (FP.l2d cb))) (FP.i2d (((0 : Int32) + (1 : Int32)) + (1 : Int32))))))) at_393 A_b183 (by decide) (by decide) hw2 (pc' := 394) rfl ?_
        refine g_lload C S at_394 (pc' := 396) rfl rfl ?_
        refine g_l2d C S at_396 (pc' := 397) rfl ?_
        refine g_dload C S at_397 (pc' := 399) rfl rfl ?_
        refine g_dmul C S at_399 (pc' := 400) rfl (nn_of (Jvm.Free.Fl.dmul_mag (Ka := 1088) (Kb := 1062) (Jvm.Free.Fl.l2d_mag _) (ddiv_mag (K := 1061) (L := 1023) (Jvm.Free.Fl.dadd_mag (K := 1059) (Jvm.Free.Fl.Mag64.mono (Jvm.Free.Fl.dadd_mag (K := 1057) (Jvm.Free.Fl.Mag64.mono own_mag0 (by decide)) (Jvm.Free.Fl.Mag64.mono (ddiv_mag (K := 1056) (L := 1023) (Jvm.Free.Fl.i2d_mag _) (l2d_big (own_nz hc53)) (by decide) (by decide)) (by decide)) (by decide)) (by decide)) (Jvm.Free.Fl.Mag64.mono (ddiv_mag (K := 1056) (L := 1023) (Jvm.Free.Fl.i2d_mag _) (l2d_big (own_nz hc74)) (by decide) (by decide)) (by decide)) (by decide)) (own_i2d (by decide)) (by decide) (by decide)) (by decide) (by decide)) (by decide)) ?_
        refine g_dcmp C S at_400 (v := 0) (pc' := 401) rfl (dcmpV_self (nn_of (Jvm.Free.Fl.dmul_mag (Ka := 1088) (Kb := 1062) (Jvm.Free.Fl.l2d_mag _) (ddiv_mag (K := 1061) (L := 1023) (Jvm.Free.Fl.dadd_mag (K := 1059) (Jvm.Free.Fl.Mag64.mono (Jvm.Free.Fl.dadd_mag (K := 1057) (Jvm.Free.Fl.Mag64.mono own_mag0 (by decide)) (Jvm.Free.Fl.Mag64.mono (ddiv_mag (K := 1056) (L := 1023) (Jvm.Free.Fl.i2d_mag _) (l2d_big (own_nz hc53)) (by decide) (by decide)) (by decide)) (by decide)) (by decide)) (Jvm.Free.Fl.Mag64.mono (ddiv_mag (K := 1056) (L := 1023) (Jvm.Free.Fl.i2d_mag _) (l2d_big (own_nz hc74)) (by decide) (by decide)) (by decide)) (by decide)) (own_i2d (by decide)) (by decide) (by decide)) (by decide) (by decide)) (by decide)) _) ?_
        refine g_if_ne C S at_401 (pc' := 408) (pf := 404) (by decide) (by decide) rfl (fun hc401 => absurd rfl hc401) (fun hc401 => ?_)
        refine g_iconst C S (1 : Int32) at_404 (pc' := 405) rfl rfl ?_
        refine g_goto C S at_405 (pc' := 409) (by decide) (by decide) ?_
        exact g_retZ C S at_409 (by decide) (by decide) (by decide) (rfl)
      · refine g_lload C S at_101 (pc' := 103) rfl rfl ?_
        refine g_bipush C S (32 : Int32) at_103 (pc' := 105) rfl rfl ?_
        refine g_lushr C S at_105 (pc' := 106) rfl ?_
        refine g_ldc2 C S at_106 (hw _ (List.mem_of_getElem? (i := 2) rfl)) (pc' := 109) rfl ?_
        refine g_land C S at_109 (pc' := 110) rfl ?_
        refine g_l2i C S at_110 (pc' := 111) rfl ?_
        obtain ⟨xc, e_xc⟩ : ∃ z, z = ((((q6.toUInt64 >>> ((32 : Int32) &&& 0x3f).toInt64.toUInt64).toInt64) &&& (65535 : Int64)).toInt32) := ⟨_, rfl⟩
        rw [← e_xc]
        refine g_i2d C S at_111 (pc' := 112) rfl ?_
        refine g_goto C S at_112 (pc' := 116) (by decide) (by decide) ?_
        refine g_dstore C S at_116 (pc' := 118) rfl (L' := #[.val (.long q1), .second, .val (.long q2), .second, .val (.long q3), .second, .val (.long q4), .second, .val (.long q5), .second, .val (.long q6), .second, .val (.long qa), .second, .val (.long qb), .second, .val (.long qc), .second, .val (.long ca), .second, .val (.long cb), .second, .val (.long cc), .second, .val (.double (FP.i2d xa)), .second, .val (.double (FP.i2d xb)), .second, .val (.double (FP.i2d xc)), .second, .unset, .unset, .unset, .unset, .unset, .unset, .unset, .unset, .unset, .unset, .unset, .unset, .unset, .unset, .unset, .unset, .unset, .unset, .unset, .unset, .unset]) rfl ?_
        refine g_iconst C S (3 : Int32) at_118 (pc' := 119) rfl rfl ?_
        refine g_newarray C S (N := 3) (cap := 3) at_119 (hw _ (List.mem_of_getElem? (i := 3) rfl)) (by decide) (by decide) (by decide) (by decide) (by decide) (pc' := 121) rfl (fun T184 h184 a184 S g184 E184 A_a184 => ?_)
        have ge_a184 : n0 ≤ a184 := ge_of g184 Zn
        have Zn := Nat.le_trans Zn E184.1
        have A_a184 : Ary Z h184 a184 .long 3 (fun _ => (.long (0 : Int64))) := A_a184
        refine g_dup C S at_121 (pc' := 122) rfl rfl ?_
        refine g_iconst C S (0 : Int32) at_122 (pc' := 123) rfl rfl ?_
        refine g_lload C S at_123 (pc' := 125) rfl rfl ?_
        refine g_lastore C S (i := 0) at_125 A_a184 (by decide) (by decide) ge_a184 (pc' := 126) rfl (fun T185 h185 S W185 B185 => ?_)
        have Zn := Nat.le_trans Zn (Nat.le_of_eq W185.size.symm)
        have A_a184 := B185
        refine g_dup C S at_126 (pc' := 127) rfl rfl ?_
        refine g_iconst C S (1 : Int32) at_127 (pc' := 128) rfl rfl ?_
        refine g_lload C S at_128 (pc' := 130) rfl rfl ?_
        refine g_lastore C S (i := 1) at_130 A_a184 (by decide) (by decide) ge_a184 (pc' := 131) rfl (fun T186 h186 S W186 B186 => ?_)
        have Zn := Nat.le_trans Zn (Nat.le_of_eq W186.size.symm)
        have A_a184 := B186
        refine g_dup C S at_131 (pc' := 132) rfl rfl ?_
        refine g_iconst C S (2 : Int32) at_132 (pc' := 133) rfl rfl ?_
        refine g_lload C S at_133 (pc' := 135) rfl rfl ?_
        refine g_lastore C S (i := 2) at_135 A_a184 (by decide) (by decide) ge_a184 (pc' := 136) rfl (fun T187 h187 S W187 B187 => ?_)
        have Zn := Nat.le_trans Zn (Nat.le_of_eq W187.size.symm)
        have A_a184 := B187
        refine g_astore C S at_136 (pc' := 138) rfl rfl (L' := #[.val (.long q1), .second, .val (.long q2), .second, .val (.long q3), .second, .val (.long q4), .second, .val (.long q5), .second, .val (.long q6), .second, .val (.long qa), .second, .val (.long qb), .second, .val (.long qc), .second, .val (.long ca), .second, .val (.long cb), .second, .val (.long cc), .second, .val (.double (FP.i2d xa)), .second, .val (.double (FP.i2d xb)), .second, .val (.double (FP.i2d xc)), .second, .val (.ref a184), .unset, .unset, .unset, .unset, .unset, .unset, .unset, .unset, .unset, .unset, .unset, .unset, .unset, .unset, .unset, .unset, .unset, .unset, .unset, .unset]) rfl ?_
        refine g_iconst C S (3 : Int32) at_138 (pc' := 139) rfl rfl ?_
        refine g_newarray C S (N := 3) (cap := 3) at_139 (hw _ (List.mem_of_getElem? (i := 3) rfl)) (by decide) (by decide) (by decide) (by decide) (by decide) (pc' := 141) rfl (fun T188 h188 a188 S g188 E188 A_a188 => ?_)
        have ne_a184_a188 : a184 ≠ a188 := ne_new g188 A_a184.lt
        have ge_a188 : n0 ≤ a188 := ge_of g188 Zn
        have Zn := Nat.le_trans Zn E188.1
        have A_a184 := A_a184.ext E188
        have A_a188 : Ary Z h188 a188 .long 3 (fun _ => (.long (0 : Int64))) := A_a188
        refine g_dup C S at_141 (pc' := 142) rfl rfl ?_
        refine g_iconst C S (0 : Int32) at_142 (pc' := 143) rfl rfl ?_
        refine g_lload C S at_143 (pc' := 145) rfl rfl ?_
        refine g_lastore C S (i := 0) at_145 A_a188 (by decide) (by decide) ge_a188 (pc' := 146) rfl (fun T189 h189 S W189 B189 => ?_)
        have Zn := Nat.le_trans Zn (Nat.le_of_eq W189.size.symm)
        have A_a184 := A_a184.other W189 ne_a184_a188
        have A_a188 := B189
        refine g_dup C S at_146 (pc' := 147) rfl rfl ?_
        refine g_iconst C S (1 : Int32) at_147 (pc' := 148) rfl rfl ?_
        refine g_lload C S at_148 (pc' := 150) rfl rfl ?_
        refine g_lastore C S (i := 1) at_150 A_a188 (by decide) (by decide) ge_a188 (pc' := 151) rfl (fun T190 h190 S W190 B190 => ?_)
        have Zn := Nat.le_trans Zn (Nat.le_of_eq W190.size.symm)
        have A_a184 := A_a184.other W190 ne_a184_a188
        have A_a188 := B190
        refine g_dup C S at_151 (pc' := 152) rfl rfl ?_
        refine g_iconst C S (2 : Int32) at_152 (pc' := 153) rfl rfl ?_
        refine g_lload C S at_153 (pc' := 155) rfl rfl ?_
        refine g_lastore C S (i := 2) at_155 A_a188 (by decide) (by decide) ge_a188 (pc' := 156) rfl (fun T191 h191 S W191 B191 => ?_)
        have Zn := Nat.le_trans Zn (Nat.le_of_eq W191.size.symm)
        have A_a184 := A_a184.other W191 ne_a184_a188
        have A_a188 := B191
        refine g_astore C S at_156 (pc' := 158) rfl rfl (L' := #[.val (.long q1), .second, .val (.long q2), .second, .val (.long q3), .second, .val (.long q4), .second, .val (.long q5), .second, .val (.long q6), .second, .val (.long qa), .second, .val (.long qb), .second, .val (.long qc), .second, .val (.long ca), .second, .val (.long cb), .second, .val (.long cc), .second, .val (.double (FP.i2d xa)), .second, .val (.double (FP.i2d xb)), .second, .val (.double (FP.i2d xc)), .second, .val (.ref a184), .val (.ref a188), .unset, .unset, .unset, .unset, .unset, .unset, .unset, .unset, .unset, .unset, .unset, .unset, .unset, .unset, .unset, .unset, .unset, .unset, .unset]) rfl ?_
        refine g_iconst C S (3 : Int32) at_158 (pc' := 159) rfl rfl ?_
        refine g_newarray C S (N := 3) (cap := 3) at_159 (hw _ (List.mem_of_getElem? (i := 4) rfl)) (by decide) (by decide) (by decide) (by decide) (by decide) (pc' := 161) rfl (fun T192 h192 a192 S g192 E192 A_a192 => ?_)
        have ne_a184_a192 : a184 ≠ a192 := ne_new g192 A_a184.lt
        have ne_a188_a192 : a188 ≠ a192 := ne_new g192 A_a188.lt
        have ge_a192 : n0 ≤ a192 := ge_of g192 Zn
        have Zn := Nat.le_trans Zn E192.1
        have A_a184 := A_a184.ext E192
        have A_a188 := A_a188.ext E192
        have A_a192 : Ary Z h192 a192 .double 3 (fun _ => (.double 0)) := A_a192
        refine g_dup C S at_161 (pc' := 162) rfl rfl ?_
        refine g_iconst C S (0 : Int32) at_162 (pc' := 163) rfl rfl ?_
        refine g_dload C S at_163 (pc' := 165) rfl rfl ?_
        refine g_dastore C S (i := 0) at_165 A_a192 (by decide) (by decide) ge_a192 (pc' := 166) rfl (fun T193 h193 S W193 B193 => ?_)
        have Zn := Nat.le_trans Zn (Nat.le_of_eq W193.size.symm)
        have A_a184 := A_a184.other W193 ne_a184_a192
        have A_a188 := A_a188.other W193 ne_a188_a192
        have A_a192 := B193
        refine g_dup C S at_166 (pc' := 167) rfl rfl ?_
        refine g_iconst C S (1 : Int32) at_167 (pc' := 168) rfl rfl ?_
        refine g_dload C S at_168 (pc' := 170) rfl rfl ?_
        refine g_dastore C S (i := 1) at_170 A_a192 (by decide) (by decide) ge_a192 (pc' := 171) rfl (fun T194 h194 S W194 B194 => ?_)
        have Zn := Nat.le_trans Zn (Nat.le_of_eq W194.size.symm)
        have A_a184 := A_a184.other W194 ne_a184_a192
        have A_a188 := A_a188.other W194 ne_a188_a192
        have A_a192 := B194
        refine g_dup C S at_171 (pc' := 172) rfl rfl ?_
        refine g_iconst C S (2 : Int32) at_172 (pc' := 173) rfl rfl ?_
        refine g_dload C S at_173 (pc' := 175) rfl rfl ?_
        refine g_dastore C S (i := 2) at_175 A_a192 (by decide) (by decide) ge_a192 (pc' := 176) rfl (fun T195 h195 S W195 B195 => ?_)
        have Zn := Nat.le_trans Zn (Nat.le_of_eq W195.size.symm)
        have A_a184 := A_a184.other W195 ne_a184_a192
        have A_a188 := A_a188.other W195 ne_a188_a192
        have A_a192 := B195
        refine g_astore C S at_176 (pc' := 178) rfl rfl (L' := #[.val (.long q1), .second, .val (.long q2), .second, .val (.long q3), .second, .val (.long q4), .second, .val (.long q5), .second, .val (.long q6), .second, .val (.long qa), .second, .val (.long qb), .second, .val (.long qc), .second, .val (.long ca), .second, .val (.long cb), .second, .val (.long cc), .second, .val (.double (FP.i2d xa)), .second, .val (.double (FP.i2d xb)), .second, .val (.double (FP.i2d xc)), .second, .val (.ref a184), .val (.ref a188), .val (.ref a192), .unset, .unset, .unset, .unset, .unset, .unset, .unset, .unset, .unset, .unset, .unset, .unset, .unset, .unset, .unset, .unset, .unset, .unset]) rfl ?_
        refine g_aload C S at_178 (pc' := 180) rfl rfl rfl ?_
        refine g_aload C S at_180 (pc' := 182) rfl rfl rfl ?_
        refine g_aload C S at_182 (pc' := 184) rfl rfl rfl ?_
        refine g_callS C S (rm := ({ frames := 1, cells := 2, slots := 6, locals := 20 } : Room)) (W := 0) at_184 (hw _ (List.mem_of_getElem? (i := 5) rfl)) (hw _ (List.mem_of_getElem? (i := 6) rfl)) (hw _ (List.mem_of_getElem? (i := 7) rfl)) (hw _ (List.mem_of_getElem? (i := 8) rfl)) (by decide) (c_wt111 l Z a0 hw a184 a188 a192 h195 n0 ca cb cc (FP.i2d xa) (FP.i2d xb) (FP.i2d xc) _ _ (Jvm.Free.Fl.i2d_mag _) (Jvm.Free.Fl.i2d_mag _) (Jvm.Free.Fl.i2d_mag _) rfl rfl rfl rfl rfl rfl qa qb qc _ rfl rfl rfl hc53 hc74 hc98 Zn A_a184 A_a188 A_a192) (argsL := [(.ref a184), (.ref a188), (.ref a192)]) (r := []) rfl (lenOf pd_1 rfl) rfl (Nat.le_of_eq rfl) (by decide) (by decide) (by decide) (by decide) (pc' := 187) rfl (fun T196 h196 v196 q196 S => ?_)
        obtain ⟨b196, fw, rfl, ge_b196, sz_b196, A_b196, hw0, hw1, hw2⟩ := q196
        show Gl p e below s _ n0 _ T196 (mkF m 187 #[.val (.long q1), .second, .val (.long q2), .second, .val (.long q3), .second, .val (.long q4), .second, .val (.long q5), .second, .val (.long q6), .second, .val (.long qa), .second, .val (.long qb), .second, .val (.long qc), .second, .val (.long ca), .second, .val (.long cb), .second, .val (.long cc), .second, .val (.double (FP.i2d xa)), .second, .val (.double (FP.i2d xb)), .second, .val (.double (FP.i2d xc)), .second, .val (.ref a184), .val (.ref a188), .val (.ref a192), .unset, .unset, .unset, .unset, .unset, .unset, .unset, .unset, .unset, .unset, .unset, .unset, .unset, .unset, .unset, .unset, .unset, .unset] [(.ref b196)])
        refine g_astore C S at_187 (pc' := 189) rfl rfl (L' := #[.val (.long q1), .second, .val (.long q2), .second, .val (.long q3), .second, .val (.long q4), .second, .val (.long q5), .second, .val (.long q6), .second, .val (.long qa), .second, .val (.long qb), .second, .val (.long qc), .second, .val (.long ca), .second, .val (.long cb), .second, .val (.long cc), .second, .val (.double (FP.i2d xa)), .second, .val (.double (FP.i2d xb)), .second, .val (.double (FP.i2d xc)), .second, .val (.ref a184), .val (.ref a188), .val (.ref a192), .val (.ref b196), .unset, .unset, .unset, .unset, .unset, .unset, .unset, .unset, .unset, .unset, .unset, .unset, .unset, .unset, .unset, .unset, .unset]) rfl ?_
        refine g_aload C S at_189 (pc' := 191) rfl rfl rfl ?_
        refine g_arraylength C S (x := (3 : Int32)) at_191 A_b196 (by decide) (pc' := 192) rfl ?_
        refine g_iconst C S (3 : Int32) at_192 (pc' := 193) rfl rfl ?_
        refine g_icmp_eq C S at_193 (pc' := 198) (pf := 196) (by decide) (by decide) rfl (fun hc193 => ?_) (fun hc193 => absurd rfl hc193)
        refine g_iconst C S (0 : Int32) at_198 (pc' := 199) rfl rfl ?_
        refine g_istore C S at_199 (pc' := 201) rfl (L' := #[.val (.long q1), .second, .val (.long q2), .second, .val (.long q3), .second, .val (.long q4), .second, .val (.long q5), .second, .val (.long q6), .second, .val (.long qa), .second, .val (.long qb), .second, .val (.long qc), .second, .val (.long ca), .second, .val (.long cb), .second, .val (.long cc), .second, .val (.double (FP.i2d xa)), .second, .val (.double (FP.i2d xb)), .second, .val (.double (FP.i2d xc)), .second, .val (.ref a184), .val (.ref a188), .val (.ref a192), .val (.ref b196), .val (.int (0 : Int32)), .unset, .unset, .unset, .unset, .unset, .unset, .unset, .unset, .unset, .unset, .unset, .unset, .unset, .unset, .unset, .unset]) rfl ?_
        refine g_dconst0 C S at_201 (pc' := 202) rfl ?_
        refine g_dstore C S at_202 (pc' := 204) rfl (L' := #[.val (.long q1), .second, .val (.long q2), .second, .val (.long q3), .second, .val (.long q4), .second, .val (.long q5), .second, .val (.long q6), .second, .val (.long qa), .second, .val (.long qb), .second, .val (.long qc), .second, .val (.long ca), .second, .val (.long cb), .second, .val (.long cc), .second, .val (.double (FP.i2d xa)), .second, .val (.double (FP.i2d xb)), .second, .val (.double (FP.i2d xc)), .second, .val (.ref a184), .val (.ref a188), .val (.ref a192), .val (.ref b196), .val (.int (0 : Int32)), .val (.double FP.dconst0), .second, .unset, .unset, .unset, .unset, .unset, .unset, .unset, .unset, .unset, .unset, .unset, .unset, .unset, .unset]) rfl ?_
        refine g_dconst0 C S at_204 (pc' := 205) rfl ?_
        refine g_dstore C S at_205 (pc' := 207) rfl (L' := #[.val (.long q1), .second, .val (.long q2), .second, .val (.long q3), .second, .val (.long q4), .second, .val (.long q5), .second, .val (.long q6), .second, .val (.long qa), .second, .val (.long qb), .second, .val (.long qc), .second, .val (.long ca), .second, .val (.long cb), .second, .val (.long cc), .second, .val (.double (FP.i2d xa)), .second, .val (.double (FP.i2d xb)), .second, .val (.double (FP.i2d xc)), .second, .val (.ref a184), .val (.ref a188), .val (.ref a192), .val (.ref b196), .val (.int (0 : Int32)), .val (.double FP.dconst0), .second, .val (.double FP.dconst0), .second, .unset, .unset, .unset, .unset, .unset, .unset, .unset, .unset, .unset, .unset, .unset, .unset]) rfl ?_
        refine g_dconst0 C S at_207 (pc' := 208) rfl ?_
        refine g_dstore C S at_208 (pc' := 210) rfl (L' := #[.val (.long q1), .second, .val (.long q2), .second, .val (.long q3), .second, .val (.long q4), .second, .val (.long q5), .second, .val (.long q6), .second, .val (.long qa), .second, .val (.long qb), .second, .val (.long qc), .second, .val (.long ca), .second, .val (.long cb), .second, .val (.long cc), .second, .val (.double (FP.i2d xa)), .second, .val (.double (FP.i2d xb)), .second, .val (.double (FP.i2d xc)), .second, .val (.ref a184), .val (.ref a188), .val (.ref a192), .val (.ref b196), .val (.int (0 : Int32)), .val (.double FP.dconst0), .second, .val (.double FP.dconst0), .second, .val (.double FP.dconst0), .second, .unset, .unset, .unset, .unset, .unset, .unset, .unset, .unset, .unset, .unset]) rfl ?_
        refine g_dconst0 C S at_210 (pc' := 211) rfl ?_
        refine g_dstore C S at_211 (pc' := 213) rfl (L' := #[.val (.long q1), .second, .val (.long q2), .second, .val (.long q3), .second, .val (.long q4), .second, .val (.long q5), .second, .val (.long q6), .second, .val (.long qa), .second, .val (.long qb), .second, .val (.long qc), .second, .val (.long ca), .second, .val (.long cb), .second, .val (.long cc), .second, .val (.double (FP.i2d xa)), .second, .val (.double (FP.i2d xb)), .second, .val (.double (FP.i2d xc)), .second, .val (.ref a184), .val (.ref a188), .val (.ref a192), .val (.ref b196), .val (.int (0 : Int32)), .val (.double FP.dconst0), .second, .val (.double FP.dconst0), .second, .val (.double FP.dconst0), .second, .val (.double FP.dconst0), .second, .unset, .unset, .unset, .unset, .unset, .unset, .unset, .unset]) rfl ?_
        refine g_lload C S at_213 (pc' := 215) rfl rfl ?_
        refine g_lconst C S (0 : Int64) at_215 (pc' := 216) rfl rfl ?_
        refine g_lcmp C S at_216 (pc' := 217) rfl ?_
        refine g_lif_le C S at_217 (pc' := 241) (pf := 220) (by decide) (by decide) rfl (fun hc217 => absurd hc53 hc217) (fun hc217 => ?_)
        refine g_dload C S at_220 (pc' := 222) rfl rfl ?_
        refine g_lload C S at_222 (pc' := 224) rfl rfl ?_
        refine g_l2d C S at_224 (pc' := 225) rfl ?_
        refine g_ddiv C S at_225 (pc' := 226) rfl (nn_of (ddiv_mag (K := 1056) (L := 1023) (Jvm.Free.Fl.i2d_mag _) (l2d_big (own_nz hc53)) (by decide) (by decide)) (by decide)) ?_
        refine g_dstore C S at_226 (pc' := 228) rfl (L' := #[.val (.long q1), .second, .val (.long q2), .second, .val (.long q3), .second, .val (.long q4), .second, .val (.long q5), .second, .val (.long q6), .second, .val (.long qa), .second, .val (.long qb), .second, .val (.long qc), .second, .val (.long ca), .second, .val (.long cb), .second, .val (.long cc), .second, .val (.double (FP.i2d xa)), .second, .val (.double (FP.i2d xb)), .second, .val (.double (FP.i2d xc)), .second, .val (.ref a184), .val (.ref a188), .val (.ref a192), .val (.ref b196), .val (.int (0 : Int32)), .val (.double FP.dconst0), .second, .val (.double (FP.ddiv (FP.i2d xa) (FP.l2d ca))), .second, .val (.double FP.dconst0), .second, .val (.double FP.dconst0), .second, .unset, .unset, .unset, .unset, .unset, .unset, .unset, .unset]) rfl ?_
        refine g_dload C S at_228 (pc' := 230) rfl rfl ?_
        refine g_dload C S at_230 (pc' := 232) rfl rfl ?_
        refine g_dadd C S at_232 (pc' := 233) rfl (nn_of (Jvm.Free.Fl.dadd_mag (K := 1057) (Jvm.Free.Fl.Mag64.mono own_mag0 (by decide)) (Jvm.Free.Fl.Mag64.mono (ddiv_mag (K := 1056) (L := 1023) (Jvm.Free.Fl.i2d_mag _) (l2d_big (own_nz hc53)) (by decide) (by decide)) (by decide)) (by decide)) (by decide)) ?_
        refine g_dstore C S at_233 (pc' := 235) rfl (L' := #[.val (.long q1), .second, .val (.long q2), .second, .val (.long q3), .second, .val (.long q4), .second, .val (.long q5), .second, .val (.long q6), .second, .val (.long qa), .second, .val (.long qb), .second, .val (.long qc), .second, .val (.long ca), .second, .val (.long cb), .second, .val (.long cc), .second, .val (.double (FP.i2d xa)), .second, .val (.double (FP.i2d xb)), .second, .val (.double (FP.i2d xc)), .second, .val (.ref a184), .val (.ref a188), .val (.ref a192), .val (.ref b196), .val (.int (0 : Int32)), .val (.double (FP.dadd FP.dconst0 (FP.ddiv (FP.i2d xa) (FP.l2d ca)))), .second, .val (.double (FP.ddiv (FP.i2d xa) (FP.l2d ca))), .second, .val (.double FP.dconst0), .second, .val (.double FP.dconst0), .second, .unset, .unset, .unset, .unset, .unset, .unset, .unset, .unset]) rfl ?_
        refine g_iload C S at_235 (pc' := 237) rfl rfl ?_
        refine g_iconst C S (1 : Int32) at_237 (pc' := 238) rfl rfl ?_
        refine g_iadd C S at_238 (pc' := 239) rfl ?_
        refine g_istore C S at_239 (pc' := 241) rfl (L' := #[.val (.long q1), .second, .val (.long q2), .second, .val (.long q3), .second, .val (.long q4), .second, .val (.long q5), .second, .val (.long q6), .second, .val (.long qa), .second, .val (.long qb), .second, .val (.long qc), .second, .val (.long ca), .second, .val (.long cb), .second, .val (.long cc), .second, .val (.double (FP.i2d xa)), .second, .val (.double (FP.i2d xb)), .second, .val (.double (FP.i2d xc)), .second, .val (.ref a184), .val (.ref a188), .val (.ref a192), .val (.ref b196), .val (.int ((0 : Int32) + (1 : Int32))), .val (.double (FP.dadd FP.dconst0 (FP.ddiv (FP.i2d xa) (FP.l2d ca)))), .second, .val (.double (FP.ddiv (FP.i2d xa) (FP.l2d ca))), .second, .val (.double FP.dconst0), .second, .val (.double FP.dconst0), .second, .unset, .unset, .unset, .unset, .unset, .unset, .unset, .unset]) rfl ?_
        refine g_lload C S at_241 (pc' := 243) rfl rfl ?_
        refine g_lconst C S (0 : Int64) at_243 (pc' := 244) rfl rfl ?_
        refine g_lcmp C S at_244 (pc' := 245) rfl ?_
        refine g_lif_le C S at_245 (pc' := 269) (pf := 248) (by decide) (by decide) rfl (fun hc245 => absurd hc74 hc245) (fun hc245 => ?_)
        refine g_dload C S at_248 (pc' := 250) rfl rfl ?_
        refine g_lload C S at_250 (pc' := 252) rfl rfl ?_
        refine g_l2d C S at_252 (pc' := 253) rfl ?_
        refine g_ddiv C S at_253 (pc' := 254) rfl (nn_of (ddiv_mag (K := 1056) (L := 1023) (Jvm.Free.Fl.i2d_mag _) (l2d_big (own_nz hc74)) (by decide) (by decide)) (by decide)) ?_
        refine g_dstore C S at_254 (pc' := 256) rfl (L' := #[.val (.long q1), .second, .val (.long q2), .second, .val (.long q3), .second, .val (.long q4), .second, .val (.long q5), .second, .val (.long q6), .second, .val (.long qa), .second, .val (.long qb), .second, .val (.long qc), .second, .val (.long ca), .second, .val (.long cb), .second, .val (.long cc), .second, .val (.double (FP.i2d xa)), .second, .val (.double (FP.i2d xb)), .second, .val (.double (FP.i2d xc)), .second, .val (.ref a184), .val (.ref a188), .val (.ref a192), .val (.ref b196), .val (.int ((0 : Int32) + (1 : Int32))), .val (.double (FP.dadd FP.dconst0 (FP.ddiv (FP.i2d xa) (FP.l2d ca)))), .second, .val (.double (FP.ddiv (FP.i2d xa) (FP.l2d ca))), .second, .val (.double (FP.ddiv (FP.i2d xb) (FP.l2d cb))), .second, .val (.double FP.dconst0), .second, .unset, .unset, .unset, .unset, .unset, .unset, .unset, .unset]) rfl ?_
        refine g_dload C S at_256 (pc' := 258) rfl rfl ?_
        refine g_dload C S at_258 (pc' := 260) rfl rfl ?_
        refine g_dadd C S at_260 (pc' := 261) rfl (nn_of (Jvm.Free.Fl.dadd_mag (K := 1059) (Jvm.Free.Fl.Mag64.mono (Jvm.Free.Fl.dadd_mag (K := 1057) (Jvm.Free.Fl.Mag64.mono own_mag0 (by decide)) (Jvm.Free.Fl.Mag64.mono (ddiv_mag (K := 1056) (L := 1023) (Jvm.Free.Fl.i2d_mag _) (l2d_big (own_nz hc53)) (by decide) (by decide)) (by decide)) (by decide)) (by decide)) (Jvm.Free.Fl.Mag64.mono (ddiv_mag (K := 1056) (L := 1023) (Jvm.Free.Fl.i2d_mag _) (l2d_big (own_nz hc74)) (by decide) (by decide)) (by decide)) (by decide)) (by decide)) ?_
        refine g_dstore C S at_261 (pc' := 263) rfl (L' := #[.val (.long q1), .second, .val (.long q2), .second, .val (.long q3), .second, .val (.long q4), .second, .val (.long q5), .second, .val (.long q6), .second, .val (.long qa), .second, .val (.long qb), .second, .val (.long qc), .second, .val (.long ca), .second, .val (.long cb), .second, .val (.long cc), .second, .val (.double (FP.i2d xa)), .second, .val (.double (FP.i2d xb)), .second, .val (.double (FP.i2d xc)), .second, .val (.ref a184), .val (.ref a188), .val (.ref a192), .val (.ref b196), .val (.int ((0 : Int32) + (1 : Int32))), .val (.double (FP.dadd (FP.dadd FP.dconst0 (FP.ddiv (FP.i2d xa) (FP.l2d ca))) (FP.ddiv (FP.i2d xb) (FP.l2d cb)))), .second, .val (.double (FP.ddiv (FP.i2d xa) (FP.l2d ca))), .second, .val (.double (FP.ddiv (FP.i2d xb) (FP.l2d cb))), .second, .val (.double FP.dconst0), .second, .unset, .unset, .unset, .unset, .unset, .unset, .unset, .unset]) rfl ?_
        refine g_iload C S at_263 (pc' := 265) rfl rfl ?_
        refine g_iconst C S (1 : Int32) at_265 (pc' := 266) rfl rfl ?_
        refine g_iadd C S at_266 (pc' := 267) rfl ?_
        refine g_istore C S at_267 (pc' := 269) rfl (L' := #[.val (.long q1), .second, .val (.long q2), .second, .val (.long q3), .second, .val (.long q4), .second, .val (.long q5), .second, .val (.long q6), .second, .val (.long qa), .second, .val (.long qb), .second, .val (.long qc), .second, .val (.long ca), .second, .val (.long cb), .second, .val (.long cc), .second, .val (.double (FP.i2d xa)), .second, .val (.double (FP.i2d xb)), .second, .val (.double (FP.i2d xc)), .second, .val (.ref a184), .val (.ref a188), .val (.ref a192), .val (.ref b196), .val (.int (((0 : Int32) + (1 : Int32)) + (1 : Int32))), .val (.double (FP.dadd (FP.dadd FP.dconst0 (FP.ddiv (FP.i2d xa) (FP.l2d ca))) (FP.ddiv (FP.i2d xb) (FP.l2d cb)))), .second, .val (.double (FP.ddiv (FP.i2d xa) (FP.l2d ca))), .second, .val (.double (FP.ddiv (FP.i2d xb) (FP.l2d cb))), .second, .val (.double FP.dconst0), .second, .unset, .unset, .unset, .unset, .unset, .unset, .unset, .unset]) rfl ?_
        refine g_lload C S at_269 (pc' := 271) rfl rfl ?_
        refine g_lconst C S (0 : Int64) at_271 (pc' := 272) rfl rfl ?_
        refine g_lcmp C S at_272 (pc' := 273) rfl ?_
        refine g_lif_le C S at_273 (pc' := 297) (pf := 276) (by decide) (by decide) rfl (fun hc273 => absurd hc98 hc273) (fun hc273 => ?_)
        refine g_dload C S at_276 (pc' := 278) rfl rfl ?_
        refine g_lload C S at_278 (pc' := 280) rfl rfl ?_
        refine g_l2d C S at_280 (pc' := 281) rfl ?_
        refine g_ddiv C S at_281 (pc' := 282) rfl (nn_of (ddiv_mag (K := 1056) (L := 1023) (Jvm.Free.Fl.i2d_mag _) (l2d_big (own_nz hc98)) (by decide) (by decide)) (by decide)) ?_
        refine g_dstore C S at_282 (pc' := 284) rfl (L' := #[.val (.long q1), .second, .val (.long q2), .second, .val (.long q3), .second, .val (.long q4), .second, .val (.long q5), .second, .val (.long q6), .second, .val (.long qa), .second, .val (.long qb), .second, .val (.long qc), .second, .val (.long ca), .second, .val (.long cb), .second, .val (.long cc), .second, .val (.double (FP.i2d xa)), .second, .val (.double (FP.i2d xb)), .second, .val (.double (FP.i2d xc)), .second, .val (.ref a184), .val (.ref a188), .val (.ref a192), .val (.ref b196), .val (.int (((0 : Int32) + (1 : Int32)) + (1 : Int32))), .val (.double (FP.dadd (FP.dadd FP.dconst0 (FP.ddiv (FP.i2d xa) (FP.l2d ca))) (FP.ddiv (FP.i2d xb) (FP.l2d cb)))), .second, .val (.double (FP.ddiv (FP.i2d xa) (FP.l2d ca))), .second, .val (.double (FP.ddiv (FP.i2d xb) (FP.l2d cb))), .second, .val (.double (FP.ddiv (FP.i2d xc) (FP.l2d cc))), .second, .unset, .unset, .unset, .unset, .unset, .unset, .unset, .unset]) rfl ?_
        refine g_dload C S at_284 (pc' := 286) rfl rfl ?_
        refine g_dload C S at_286 (pc' := 288) rfl rfl ?_
        refine g_dadd C S at_288 (pc' := 289) rfl (nn_of (Jvm.Free.Fl.dadd_mag (K := 1061) (Jvm.Free.Fl.Mag64.mono (Jvm.Free.Fl.dadd_mag (K := 1059) (Jvm.Free.Fl.Mag64.mono (Jvm.Free.Fl.dadd_mag (K := 1057) (Jvm.Free.Fl.Mag64.mono own_mag0 (by decide)) (Jvm.Free.Fl.Mag64.mono (ddiv_mag (K := 1056) (L := 1023) (Jvm.Free.Fl.i2d_mag _) (l2d_big (own_nz hc53)) (by decide) (by decide)) (by decide)) (by decide)) (by decide)) (Jvm.Free.Fl.Mag64.mono (ddiv_mag (K := 1056) (L := 1023) (Jvm.Free.Fl.i2d_mag _) (l2d_big (own_nz hc74)) (by decide) (by decide)) (by decide)) (by decide)) (by decide)) (Jvm.Free.Fl.Mag64.mono (ddiv_mag (K := 1056) (L := 1023) (Jvm.Free.Fl.i2d_mag _) (l2d_big (own_nz hc98)) (by decide) (by decide)) (by decide)) (by decide)) (by decide)) ?_
        refine g_dstore C S at_289 (pc' := 291) rfl (L' := #[.val (.long q1), .second, .val (.long q2), .second, .val (.long q3), .second, .val (.long q4), .second, .val (.long q5), .second, .val (.long q6), .second, .val (.long qa), .second, .val (.long qb), .second, .val (.long qc), .second, .val (.long ca), .second, .val (.long cb), .second, .val (.long cc), .second, .val (.double (FP.i2d xa)), .second, .val (.double (FP.i2d xb)), .second, .val (.double (FP.i2d xc)), .second, .val (.ref a184), .val (.ref a188), .val (.ref a192), .val (.ref b196), .val (.int (((0 : Int32) + (1 : Int32)) + (1 : Int32))), .val (.double (FP.dadd (FP.dadd (FP.dadd FP.dconst0 (FP.ddiv (FP.i2d xa) (FP.l2d ca))) (FP.ddiv (FP.i2d xb) (FP.l2d cb))) (FP.ddiv (FP.i2d xc) (FP.l2d cc)))), .second, .val (.double (FP.ddiv (FP.i2d xa) (FP.l2d ca))), .second, .val (.double (FP.ddiv (FP.i2d xb) (FP.l2d cb))), .second, .val (.double (FP.ddiv (FP.i2d xc) (FP.l2d cc))), .second, .unset, .unset, .unset, .unset, .unset, .unset, .unset, .unset]) rfl ?_
        refine g_iload C S at_291 (pc' := 293) rfl rfl ?_
        refine g_iconst C S (1 : Int32) at_293 (pc' := 294) rfl rfl ?_
        refine g_iadd C S at_294 (pc' := 295) rfl ?_
        refine g_istore C S at_295 (pc' := 297) rfl (L' := #[.val (.long q1), .second, .val (.long q2), .second, .val (.long q3), .second, .val (.long q4), .second, .val (.long q5), .second, .val (.long q6), .second, .val (.long qa), .second, .val (.long qb), .second, .val (.long qc), .second, .val (.long ca), .second, .val (.long cb), .second, .val (.long cc), .second, .val (.double (FP.i2d xa)), .second, .val (.double (FP.i2d xb)), .second, .val (.double (FP.i2d xc)), .second, .val (.ref a184), .val (.ref a188), .val (.ref a192), .val (.ref b196), .val (.int ((((0 : Int32) + (1 : Int32)) + (1 : Int32)) + (1 : Int32))), .val (.double (FP.dadd (FP.dadd (FP.dadd FP.dconst0 (FP.ddiv (FP.i2d xa) (FP.l2d ca))) (FP.ddiv (FP.i2d xb) (FP.l2d cb))) (FP.ddiv (FP.i2d xc) (FP.l2d cc)))), .second, .val (.double (FP.ddiv (FP.i2d xa) (FP.l2d ca))), .second, .val (.double (FP.ddiv (FP.i2d xb) (FP.l2d cb))), .second, .val (.double (FP.ddiv (FP.i2d xc) (FP.l2d cc))), .second, .unset, .unset, .unset, .unset, .unset, .unset, .unset, .unset]) rfl ?_
        refine g_iload C S at_297 (pc' := 299) rfl rfl ?_
        refine g_if_ne C S at_299 (pc' := 306) (pf := 302) (by decide) (by decide) rfl (fun hc299 => ?_) (fun hc299 => absurd hc299 (by decide))
        refine g_dload C S at_306 (pc' := 308) rfl rfl ?_
        refine g_iload C S at_308 (pc' := 310) rfl rfl ?_
        refine g_i2d C S at_310 (pc' := 311) rfl ?_
        refine g_ddiv C S at_311 (pc' := 312) rfl (nn_of (ddiv_mag (K := 1063) (L := 1023) (Jvm.Free.Fl.dadd_mag (K := 1061) (Jvm.Free.Fl.Mag64.mono (Jvm.Free.Fl.dadd_mag (K := 1059) (Jvm.Free.Fl.Mag64.mono (Jvm.Free.Fl.dadd_mag (K := 1057) (Jvm.Free.Fl.Mag64.mono own_mag0 (by decide)) (Jvm.Free.Fl.Mag64.mono (ddiv_mag (K := 1056) (L := 1023) (Jvm.Free.Fl.i2d_mag _) (l2d_big (own_nz hc53)) (by decide) (by decide)) (by decide)) (by decide)) (by decide)) (Jvm.Free.Fl.Mag64.mono (ddiv_mag (K := 1056) (L := 1023) (Jvm.Free.Fl.i2d_mag _) (l2d_big (own_nz hc74)) (by decide) (by decide)) (by decide)) (by decide)) (by decide)) (Jvm.Free.Fl.Mag64.mono (ddiv_mag (K := 1056) (L := 1023) (Jvm.Free.Fl.i2d_mag _) (l2d_big (own_nz hc98)) (by decide) (by decide)) (by decide)) (by decide)) (own_i2d (by decide)) (by decide) (by decide)) (by decide)) ?_
        refine g_dstore C S at_312 (pc' := 314) rfl (L' := #[.val (.long q1), .second, .val (.long q2), .second, .val (.long q3), .second, .val (.long q4), .second, .val (.long q5), .second, .val (.long q6), .second, .val (.long qa), .second, .val (.long qb), .second, .val (.long qc), .second, .val (.long ca), .second, .val (.long cb), .second, .val (.long cc), .second, .val (.double (FP.i2d xa)), .second, .val (.double (FP.i2d xb)), .second, .val (.double (FP.i2d xc)), .second, .val (.ref a184), .val (.ref a188), .val (.ref a192), .val (.ref b196), .val (.int ((((0 : Int32) + (1 : Int32)) + (1 : Int32)) + (1 : Int32))), .val (.double (FP.dadd (FP.dadd (FP.dadd FP.dconst0 (FP.ddiv (FP.i2d xa) (FP.l2d ca))) (FP.ddiv (FP.i2d xb) (FP.l2d cb))) (FP.ddiv (FP.i2d xc) (FP.l2d cc)))), .second, .val (.double (FP.ddiv (FP.i2d xa) (FP.l2d ca))), .second, .val (.double (FP.ddiv (FP.i2d xb) (FP.l2d cb))), .second, .val (.double (FP.ddiv (FP.i2d xc) (FP.l2d cc))), .second, .val (.double (FP.ddiv (FP.dadd (FP.dadd (FP.dadd FP.dconst0 (FP.ddiv (FP.i2d xa) (FP.l2d ca))) (FP.ddiv (FP.i2d xb) (FP.l2d cb))) (FP.ddiv (FP.i2d xc) (FP.l2d cc))) (FP.i2d ((((0 : Int32) + (1 : Int32)) + (1 : Int32)) + (1 : Int32))))), .second, .unset, .unset, .unset, .unset, .unset, .unset]) rfl ?_
        refine g_lload C S at_314 (pc' := 316) rfl rfl ?_
        refine g_lconst C S (0 : Int64) at_316 (pc' := 317) rfl rfl ?_
        refine g_lcmp C S at_317 (pc' := 318) rfl ?_
        refine g_lif_le C S at_318 (pc' := 326) (pf := 321) (by decide) (by decide) rfl (fun hc318 => absurd hc53 hc318) (fun hc318 => ?_)
        refine g_dload C S at_321 (pc' := 323) rfl rfl ?_
        refine g_goto C S at_323 (pc' := 328) (by decide) (by decide) ?_
        refine g_dstore C S at_328 (pc' := 330) rfl (L' := #[.val (.long q1), .second, .val (.long q2), .second, .val (.long q3), .second, .val (.long q4), .second, .val (.long q5), .second, .val (.long q6), .second, .val (.long qa), .second, .val (.long qb), .second, .val (.long qc), .second, .val (.long ca), .second, .val (.long cb), .second, .val (.long cc), .second, .val (.double (FP.i2d xa)), .second, .val (.double (FP.i2d xb)), .second, .val (.double (FP.i2d xc)), .second, .val (.ref a184), .val (.ref a188), .val (.ref a192), .val (.ref b196), .val (.int ((((0 : Int32) + (1 : Int32)) + (1 : Int32)) + (1 : Int32))), .val (.double (FP.dadd (FP.dadd (FP.dadd FP.dconst0 (FP.ddiv (FP.i2d xa) (FP.l2d ca))) (FP.ddiv (FP.i2d xb) (FP.l2d cb))) (FP.ddiv (FP.i2d xc) (FP.l2d cc)))), .second, .val (.double (FP.ddiv (FP.i2d xa) (FP.l2d ca))), .second, .val (.double (FP.ddiv (FP.i2d xb) (FP.l2d cb))), .second, .val (.double (FP.ddiv (FP.i2d xc) (FP.l2d cc))), .second, .val (.double (FP.ddiv (FP.dadd (FP.dadd (FP.dadd FP.dconst0 (FP.ddiv (FP.i2d xa) (FP.l2d ca))) (FP.ddiv (FP.i2d xb) (FP.l2d cb))) (FP.ddiv (FP.i2d xc) (FP.l2d cc))) (FP.i2d ((((0 : Int32) + (1 : Int32)) + (1 : Int32)) + (1 : Int32))))), .second, .val (.double (FP.ddiv (FP.i2d xa) (FP.l2d ca))), .second, .unset, .unset, .unset, .unset]) rfl ?_
        refine g_lload C S at_330 (pc' := 332) rfl rfl ?_
        refine g_lconst C S (0 : Int64) at_332 (pc' := 333) rfl rfl ?_
        refine g_lcmp C S at_333 (pc' := 334) rfl ?_
        refine g_lif_le C S at_334 (pc' := 342) (pf := 337) (by decide) (by decide) rfl (fun hc334 => absurd hc74 hc334) (fun hc334 => ?_)
        refine g_dload C S at_337 (pc' := 339) rfl rfl ?_
        refine g_goto C S at_339 (pc' := 344) (by decide) (by decide) ?_
        refine g_dstore C S at_344 (pc' := 346) rfl (L' := #[.val (.long q1), .second, .val (.long q2), .second, .val (.long q3), .second, .val (.long q4), .second, .val (.long q5), .second, .val (.long q6), .second, .val (.long qa), .second, .val (.long qb), .second, .val (.long qc), .second, .val (.long ca), .second, .val (.long cb), .second, .val (.long cc), .second, .val (.double (FP.i2d xa)), .second, .val (.double (FP.i2d xb)), .second, .val (.double (FP.i2d xc)), .second, .val (.ref a184), .val (.ref a188), .val (.ref a192), .val (.ref b196), .val (.int ((((0 : Int32) + (1 : Int32)) + (1 : Int32)) + (1 : Int32))), .val (.double (FP.dadd (FP.dadd (FP.dadd FP.dconst0 (FP.ddiv (FP.i2d xa) (FP.l2d ca))) (FP.ddiv (FP.i2d xb) (FP.l2d cb))) (FP.ddiv (FP.i2d xc) (FP.l2d cc)))), .second, .val (.double (FP.ddiv (FP.i2d xa) (FP.l2d ca))), .second, .val (.double (FP.ddiv (FP.i2d xb) (FP.l2d cb))), .second, .val (.double (FP.ddiv (FP.i2d xc) (FP.l2d cc))), .second, .val (.double (FP.ddiv (FP.dadd (FP.dadd (FP.dadd FP.dconst0 (FP.ddiv (FP.i2d xa) (FP.l2d ca))) (FP.ddiv (FP.i2d xb) (FP.l2d cb))) (FP.ddiv (FP.i2d xc) (FP.l2d cc))) (FP.i2d ((((0 : Int32) + (1 : Int32)) + (1 : Int32)) + (1 : Int32))))), .second, .val (.double (FP.ddiv (FP.i2d xa) (FP.l2d ca))), .second, .val (.double (FP.ddiv (FP.i2d xb) (FP.l2d cb))), .second, .unset, .unset]) rfl ?_
        refine g_lload C S at_346 (pc' := 348) rfl rfl ?_
        refine g_lconst C S (0 : Int64) at_348 (pc' := 349) rfl rfl ?_
        refine g_lcmp C S at_349 (pc' := 350) rfl ?_
        refine g_lif_le C S at_350 (pc' := 358) (pf := 353) (by decide) (by decide) rfl (fun hc350 => absurd hc98 hc350) (fun hc350 => ?_)
        refine g_dload C S at_353 (pc' := 355) rfl rfl ?_
        refine g_goto C S at_355 (pc' := 360) (by decide) (by decide) ?_
        refine g_dstore C S at_360 (pc' := 362) rfl (L' := #[.val (.long q1), .second, .val (.long q2), .second, .val (.long q3), .second, .val (.long q4), .second, .val (.long q5), .second, .val (.long q6), .second, .val (.long qa), .second, .val (.long qb), .second, .val (.long qc), .second, .val (.long ca), .second, .val (.long cb), .second, .val (.long cc), .second, .val (.double (FP.i2d xa)), .second, .val (.double (FP.i2d xb)), .second, .val (.double (FP.i2d xc)), .second, .val (.ref a184), .val (.ref a188), .val (.ref a192), .val (.ref b196), .val (.int ((((0 : Int32) + (1 : Int32)) + (1 : Int32)) + (1 : Int32))), .val (.double (FP.dadd (FP.dadd (FP.dadd FP.dconst0 (FP.ddiv (FP.i2d xa) (FP.l2d ca))) (FP.ddiv (FP.i2d xb) (FP.l2d cb))) (FP.ddiv (FP.i2d xc) (FP.l2d cc)))), .second, .val (.double (FP.ddiv (FP.i2d xa) (FP.l2d ca))), .second, .val (.double (FP.ddiv (FP.i2d xb) (FP.l2d cb))), .second, .val (.double (FP.ddiv (FP.i2d xc) (FP.l2d cc))), .second, .val (.double (FP.ddiv (FP.dadd (FP.dadd (FP.dadd FP.dconst0 (FP.ddiv (FP.i2d xa) (FP.l2d ca))) (FP.ddiv (FP.i2d xb) (FP.l2d cb))) (FP.ddiv (FP.i2d xc) (FP.l2d cc))) (FP.i2d ((((0 : Int32) + (1 : Int32)) + (1 : Int32)) + (1 : Int32))))), .second, .val (.double (FP.ddiv (FP.i2d xa) (FP.l2d ca))), .second, .val (.double (FP.ddiv (FP.i2d xb) (FP.l2d cb))), .second, .val (.double (FP.ddiv (FP.i2d xc) (FP.l2d cc))), .second]) rfl ?_
        refine g_aload C S at_362 (pc' := 364) rfl rfl rfl ?_
        refine g_iconst C S (0 : Int32) at_364 (pc' := 365) rfl rfl ?_
        refine g_daload C S (i := 0) (v := (.double (FP.dmul (FP.l2d qa) (FP.ddiv (FP.i2d xa) (FP.l2d ca))))) at_365 A_b196 (by decide) (by decide) hw0 (pc' := 366) rfl ?_
        refine g_lload C S at_366 (pc' := 368) rfl rfl ?_
        refine g_l2d C S at_368 (pc' := 369) rfl ?_
        refine g_dload C S at_369 (pc' := 371) rfl rfl ?_
        refine g_dmul C S at_371 (pc' := 372) rfl (nn_of (Jvm.Free.Fl.dmul_mag (Ka := 1088) (Kb := 1057) (Jvm.Free.Fl.l2d_mag _) (ddiv_mag (K := 1056) (L := 1023) (Jvm.Free.Fl.i2d_mag _) (l2d_big (own_nz hc53)) (by decide) (by decide)) (by decide) (by decide)) (by decide)) ?_
        refine g_dcmp C S at_372 (v := 0) (pc' := 373) rfl (dcmpV_self (nn_of (Jvm.Free.Fl.dmul_mag (Ka := 1088) (Kb := 1057) (Jvm.Free.Fl.l2d_mag _) (ddiv_mag (K := 1056) (L := 1023) (Jvm.Free.Fl.i2d_mag _) (l2d_big (own_nz hc53)) (by decide) (by decide)) (by decide) (by decide)) (by decide)) _) ?_
        refine g_if_ne C S at_373 (pc' := 408) (pf := 376) (by decide) (by decide) rfl (fun hc373 => absurd rfl hc373) (fun hc373 => ?_)
        refine g_aload C S at_376 (pc' := 378) rfl rfl rfl ?_
        refine g_iconst C S (1 : Int32) at_378 (pc' := 379) rfl rfl ?_
        refine g_daload C S (i := 1) (v := (.double (FP.dmul (FP.l2d qb) (FP.ddiv (FP.i2d xb) (FP.l2d cb))))) at_379 A_b196 (by decide) (by decide) hw1 (pc' := 380) rfl ?_
        refine g_lload C S at_380 (pc' := 382) rfl rfl ?_
        refine g_l2d C S at_382 (pc' := 383) rfl ?_
        refine g_dload C S at_383 (pc' := 385) rfl rfl ?_
        refine g_dmul C S at_385 (pc' := 386) rfl (nn_of (Jvm.Free.Fl.dmul_mag (Ka := 1088) (Kb := 1057) (Jvm.Free.Fl.l2d_mag _) (ddiv_mag (K := 1056) (L := 1023) (Jvm.Free.Fl.i2d_mag _) (l2d_big (own_nz hc74)) (by decide) (by decide)) (by decide) (by decide)) (by decide)) ?_
        refine g_dcmp C S at_386 (v := 0) (pc' := 387) rfl (dcmpV_self (nn_of (Jvm.Free.Fl.dmul_mag (Ka := 1088) (Kb := 1057) (Jvm.Free.Fl.l2d_mag _) (ddiv_mag (K := 1056) (L := 1023) (Jvm.Free.Fl.i2d_mag _) (l2d_big (own_nz hc74)) (by decide) (by decide)) (by decide) (by decide)) (by decide)) _) ?_
        refine g_if_ne C S at_387 (pc' := 408) (pf := 390) (by decide) (by decide) rfl (fun hc387 => absurd rfl hc387) (fun hc387 => ?_)
        refine g_aload C S at_390 (pc' := 392) rfl rfl rfl ?_
        refine g_iconst C S (2 : Int32) at_392 (pc' := 393) rfl rfl ?_
        refine g_daload C S (i := 2) (v := (.double (FP.dmul (FP.l2d qc) (FP.ddiv (FP.i2d xc) (FP.l2d cc))))) at_393 A_b196 (by decide) (by decide) hw2 (pc' := 394) rfl ?_
        refine g_lload C S at_394 (pc' := 396) rfl rfl ?_
        refine g_l2d C S at_396 (pc' := 397) rfl ?_
        refine g_dload C S at_397 (pc' := 399) rfl rfl ?_
        refine g_dmul C S at_399 (pc' := 400) rfl (nn_of (Jvm.Free.Fl.dmul_mag (Ka := 1088) (Kb := 1057) (Jvm.Free.Fl.l2d_mag _) (ddiv_mag (K := 1056) (L := 1023) (Jvm.Free.Fl.i2d_mag _) (l2d_big (own_nz hc98)) (by decide) (by decide)) (by decide) (by decide)) (by decide)) ?_
        refine g_dcmp C S at_400 (v := 0) (pc' := 401) rfl (dcmpV_self (nn_of (Jvm.Free.Fl.dmul_mag (Ka := 1088) (Kb := 1057) (Jvm.Free.Fl.l2d_mag _) (ddiv_mag (K := 1056) (L := 1023) (Jvm.Free.Fl.i2d_mag _) (l2d_big (own_nz hc98)) (by decide) (by decide)) (by decide) (by decide)) (by decide)) _) ?_
        refine g_if_ne C S at_401 (pc' := 408) (pf := 404) (by decide) (by decide) rfl (fun hc401 => absurd rfl hc401) (fun hc401 => ?_)
        refine g_iconst C S (1 : Int32) at_404 (pc' := 405) rfl rfl ?_
        refine g_goto C S at_405 (pc' := 409) (by decide) (by decide) ?_
        exact g_retZ C S at_409 (by decide) (by decide) (by decide) (rfl)
set_option maxRecDepth 65536 in
set_option maxHeartbeats 40000000 in
theorem comes_1 {Post : Tables → Env → Array Value → State → Outcome → State → Prop} (hpost : ∀ tb e args s v u, (limb_1_1.after args s (.returned v) u = true ∧ limb_1_2.after args s (.returned v) u = true ∧ True) → FrameEnd s (.returned v) u (Jvm.fieldLocs frame_1_writes args s ++ Jvm.arrayLocs frame_1_arrays args s ++ Jvm.staticLocs frame_1_statics s) 24 128 → Post tb e args s (.returned v) u) :
    ArmFor flags0 classFile x code maxLocals ret World_1 tables_1 room_1 Calls_1 rest_1 Pre_1 Post := by
  intro l hfl _ _ p e ha hc hk s m args below hf hA hF happ hP
  obtain ⟨hcalls, hrest, hpre⟩ := hP
  obtain ⟨-, -, -, hnamed, -, -, -, hat⟩ := (Spec.applies_iff hf).mp happ
  obtain ⟨hg, hn⟩ := and_e (Cond.before_iff.mp (show (Jvm.Cond.and given_1 narrow_1).before args s = true from hpre))
  obtain ⟨hcount, hg0⟩ := and_e hg
  obtain ⟨ha0, hg1⟩ := and_e hg0
  obtain ⟨ha1, hg2⟩ := and_e hg1
  obtain ⟨ha2, hg3⟩ := and_e hg2
  obtain ⟨ha3, hg4⟩ := and_e hg3
  obtain ⟨ha4, hg5⟩ := and_e hg4
  have ha5 := hg5
  obtain ⟨w0, w1, w2, w3, w4, w5, rfl⟩ : ∃ w0 w1 w2 w3 w4 w5 : Value, args = #[w0, w1, w2, w3, w4, w5] := by
    have hs : args.size = 6 := by simpa [Cond.value, given_1] using hcount
    obtain ⟨L⟩ := args
    match L, hs with
    | [w0, w1, w2, w3, w4, w5], _ => exact ⟨w0, w1, w2, w3, w4, w5, rfl⟩
  have hw := fun d (hd : d ∈ tables_1) => atoms_spec (ws := Jvm.Cond.code x code maxLocals ret :: tables_1) hat d (List.mem_cons_of_mem _ hd)
  obtain ⟨i0, ei0⟩ := isL_v ha0
  obtain rfl : w0 = (.long i0) := Option.some.inj ei0
  obtain ⟨i1, ei1⟩ := isL_v ha1
  obtain rfl : w1 = (.long i1) := Option.some.inj ei1
  obtain ⟨i2, ei2⟩ := isL_v ha2
  obtain rfl : w2 = (.long i2) := Option.some.inj ei2
  obtain ⟨i3, ei3⟩ := isL_v ha3
  obtain rfl : w3 = (.long i3) := Option.some.inj ei3
  obtain ⟨i4, ei4⟩ := isL_v ha4
  obtain rfl : w4 = (.long i4) := Option.some.inj ei4
  obtain ⟨i5, ei5⟩ := isL_v ha5
  obtain rfl : w5 = (.long i5) := Option.some.inj ei5
  obtain ⟨n, o, h1, h2, h3, _, L, rfl, ⟨rfl, N⟩, hq⟩ := c_law l s _ hw i0 i1 i2 i3 i4 i5 s.heap s.heap.size (Nat.le_refl _) tables_1 p e ha hc hk s m _ below hf ((Spec.applies_iff_loose hf).mp happ).1 ⟨rfl, State.Warmed39.refl s, rfl⟩ trivial
  refine ⟨n, _, h1, h2, h3, hpost _ _ _ _ _ _ ⟨Cond.after_iff.mpr rfl, Cond.after_iff.mpr (eq_i res_at (Term.int_eval (1)) rfl), trivial⟩ ⟨hq.1, hq.2.1, (hq.2.2.sift fun y hy => Or.inr (N y hy)).mono (by decide) (by decide)⟩⟩
theorem main_1_1 : Claimed_1_1 := comes_1 fun _ _ _ _ _ _ h hF => ⟨h.1, hF⟩
theorem main_1_2 : Claimed_1_2 := comes_1 fun _ _ _ _ _ _ h hF => ⟨h.2.1, hF⟩
end Jvm.Pilot.@@N@@
namespace Jvm.Pilot.@@N@@
open Jvm Jvm.ClassFile Sem Op Lib Jvm.Free Jvm.Stand Jvm.Pilot.@@N@@.Jvm.D
/-! MADE BY PROGRAM (witnessworld.py) out of the Statement's table words and the real class files: 11 classes; the members and pool entries that the words name. The judged class is class 1, her method 1. -/
namespace start1
open Jvm.ClassFile
def u (s : String) : CpInfo := .utf8 (stringToUtf16 s)
/-- a pool by its gaps: so many unusable entries, then the entry; so many at the end -/
def gap : Nat → List CpInfo → List CpInfo
  | 0, r => r
  | n + 1, r => .unusable :: gap n r
def poolList (es : List (Nat × CpInfo)) (last : Nat) : List CpInfo := es.foldr (fun e r => gap e.1 (e.2 :: r)) (gap last [])
def pool (es : List (Nat × CpInfo)) (last : Nat) : Array CpInfo := ⟨poolList es last⟩
def fileOf (pool : Array CpInfo) (this : Nat) (attrs : Array Attribute := #[]) (ms : Array MethodInfo := #[]) (fl : Nat := 33) (sup : Nat := 0) (ifs : Array Nat := #[]) (fds : Array FieldInfo := #[]) : ClassFile where
  minorVersion := 0
  majorVersion := 65
  constantPool := pool
  accessFlags := fl
  thisClass := this
  superClass := sup
  interfaces := ifs
  fields := fds
  methods := ms
  attributes := attrs
def plain (name : String) (sup : Option ClassId) : Class where
  name := name
  kind := .ordinary
  loader := none
  accessFlags := 33
  super := sup
  interfaces := #[]
  cf := none
  fields := #[]
  methods := #[]
  instanceTypes := #[]
  staticTypes := #[]
  resolved := #[]
  callSites := []
  init := .initialized
  statics := none
  mirror := none

def pool0 : Array CpInfo := pool [(5, u "<init>"), (0, u "()V"), (1, .class_ 10), (1, u "java/lang/Object")] 113

def k0m0 : Method := { name := "<init>", desc := "()V", sig := { parameters := [], returnType := none }, accessFlags := 1, code := none }
/-- java/lang/Object -/
def k0 : Class := { plain "java/lang/Object" none with
  accessFlags := 33
  interfaces := #[]
  cf := some (fileOf pool0 8 #[] #[{ accessFlags := 1, nameIndex := 5, descriptorIndex := 6, attributes := #[] }] 33 0 #[] #[])
  fields := #[]
  methods := #[k0m0]
  instanceTypes := #[]
  staticTypes := #[]
  resolved := Array.replicate 124 none
  statics := none }

def pool1 : Array CpInfo := pool [(2, .class_ 4), (1, u "java/lang/Object"), (0, u "<init>"), (0, u "()V"), (2, .long 9223372036854775807), (1, .long 255), (1, .long 65535), (1, .methodref 16 17), (0, .class_ 18), (0, .nameAndType 19 20), (0, u "com/example/tuned_conveyor/tunedconveyor/Allocation"), (0, u "weights"), (0, u "([J[J[D)[D"), (0, .class_ 22), (0, u "com/example/tuned_conveyor/tunedconveyor/AllocationWeightsPinLaw"), (2, u "law"), (0, u "(JJJJJJ)Z")] 7

def k1m0 : Method := { name := "<init>", desc := "()V", sig := { parameters := [], returnType := none }, accessFlags := 2, code := none }
def k1c1 : Code := { maxStack := 6, maxLocals := 51, code := code, exceptionTable := #[], attributes := #[] }
def k1m1 : Method := { name := "law", desc := "(JJJJJJ)Z", sig := { parameters := [.long, .long, .long, .long, .long, .long], returnType := some .boolean }, accessFlags := 9, code := some k1c1 }
/-- com/example/tuned_conveyor/tunedconveyor/AllocationWeightsPinLaw -/
def k1 : Class := { plain "com/example/tuned_conveyor/tunedconveyor/AllocationWeightsPinLaw" (some 0) with
  accessFlags := 49
  interfaces := #[]
  cf := some (fileOf pool1 21 #[] #[{ accessFlags := 2, nameIndex := 5, descriptorIndex := 6, attributes := #[] }, { accessFlags := 9, nameIndex := 25, descriptorIndex := 26, attributes := #[] }] 49 2 #[] #[])
  fields := #[]
  methods := #[k1m0, k1m1]
  instanceTypes := #[]
  staticTypes := #[]
  resolved := Array.replicate 34 none
  statics := none }

def pool2 : Array CpInfo := pool [(2, .class_ 4), (1, u "java/lang/Object"), (0, u "<init>"), (0, u "()V"), (1, .class_ 10), (1, u "com/example/tuned_conveyor/tunedconveyor/Allocation"), (70, u "weights"), (104, u "([J[J[D)[D"), (6, .methodref 8 194), (0, .nameAndType 195 196), (0, u "serviceTimes"), (0, u "([J[D)[D")] 85

def k2m0 : Method := { name := "<init>", desc := "()V", sig := { parameters := [], returnType := none }, accessFlags := 2, code := none }
def k2c1 : Code := { maxStack := 6, maxLocals := 6, code := prog_1_method_17_code, exceptionTable := #[], attributes := #[] }
def k2m1 : Method := { name := "weights", desc := "([J[J[D)[D", sig := { parameters := [(.array .long), (.array .long), (.array .double)], returnType := some (.array .double) }, accessFlags := 8, code := some k2c1 }
def k2c2 : Code := { maxStack := 6, maxLocals := 9, code := prog_1_method_18_code, exceptionTable := #[], attributes := #[] }
def k2m2 : Method := { name := "serviceTimes", desc := "([J[D)[D", sig := { parameters := [(.array .long), (.array .double)], returnType := some (.array .double) }, accessFlags := 10, code := some k2c2 }
/-- com/example/tuned_conveyor/tunedconveyor/Allocation -/
def k2 : Class := { plain "com/example/tuned_conveyor/tunedconveyor/Allocation" (some 0) with
  accessFlags := 49
  interfaces := #[]
  cf := some (fileOf pool2 8 #[] #[{ accessFlags := 2, nameIndex := 5, descriptorIndex := 6, attributes := #[] }, { accessFlags := 8, nameIndex := 81, descriptorIndex := 186, attributes := #[] }, { accessFlags := 10, nameIndex := 195, descriptorIndex := 196, attributes := #[] }] 49 2 #[] #[])
  fields := #[]
  methods := #[k2m0, k2m1, k2m2]
  instanceTypes := #[]
  staticTypes := #[]
  resolved := Array.replicate 282 none
  statics := none }

def pool3 : Array CpInfo := pool [(1, u "java/lang/Cloneable"), (0, .class_ 1), (0, u "java/lang/Object"), (0, .class_ 3)] 3

/-- java/lang/Cloneable -/
def k3 : Class := { plain "java/lang/Cloneable" (some 0) with
  accessFlags := 1537
  interfaces := #[]
  cf := some (fileOf pool3 2 #[] #[] 1537 4 #[] #[])
  fields := #[]
  methods := #[]
  instanceTypes := #[]
  staticTypes := #[]
  resolved := Array.replicate 8 none
  statics := none }

def pool4 : Array CpInfo := pool [(1, u "java/io/Serializable"), (0, .class_ 1), (0, u "java/lang/Object"), (0, .class_ 3)] 3

/-- java/io/Serializable -/
def k4 : Class := { plain "java/io/Serializable" (some 0) with
  accessFlags := 1537
  interfaces := #[]
  cf := some (fileOf pool4 2 #[] #[] 1537 4 #[] #[])
  fields := #[]
  methods := #[]
  instanceTypes := #[]
  staticTypes := #[]
  resolved := Array.replicate 8 none
  statics := none }

/-- the primitive byte -/
def k5 : Class := { plain "byte" none with kind := .primitive 'B', accessFlags := 0x411 }
/-- [B -/
def k6 : Class := { plain "[B" (some 0) with kind := .array 5 .byte, interfaces := #[3, 4], accessFlags := 1041 }

/-- the primitive int -/
def k7 : Class := { plain "int" none with kind := .primitive 'I', accessFlags := 0x411 }
/-- [I -/
def k8 : Class := { plain "[I" (some 0) with kind := .array 7 .int, interfaces := #[3, 4], accessFlags := 1041 }

/-- the primitive long -/
def k9 : Class := { plain "long" none with kind := .primitive 'J', accessFlags := 0x411 }
/-- [J -/
def k10 : Class := { plain "[J" (some 0) with kind := .array 9 .long, interfaces := #[3, 4], accessFlags := 1041 }

/-- the primitive double -/
def k11 : Class := { plain "double" none with kind := .primitive 'D', accessFlags := 0x411 }
/-- [D -/
def k12 : Class := { plain "[D" (some 0) with kind := .array 11 .double, interfaces := #[3, 4], accessFlags := 1041 }

def heap : Heap := #[]
def classes : Array Class := #[k0, k1, k2, k3, k4, k5, k6, k7, k8, k9, k10, k11, k12]
def interned : List (Array UInt16 × Addr) := []
def slotsUsed : Nat := 0
def theMethod : MethodId := ⟨1, 1⟩
def args0 : Array Value := #[.long 5, .long 300, .long 7, .long 8, .long 9, .long 10]
def aboutOver (below : List Frame) : State where
  vm := { classes := classes, interned := interned.toArray }
  heap := heap
  slotsUsed := slotsUsed
  threads := #[{ frames := .invoking theMethod args0 :: below }]
def below0 : List Frame := [.native { method := ⟨0, 0⟩, args := #[] }]
def about1 : State := aboutOver below0
def p0 : Program := .bare "" "" ""
def e0 : Env := launch0.env 0 0 0
theorem w_frames : about1.frames = Frame.invoking theMethod args0 :: below0 := rfl
set_option maxRecDepth 65536 in
theorem w_args : argsFit about1.vm theMethod args0 = true := by decide +kernel
set_option maxRecDepth 65536 in
theorem w_heap : heapFits about1 = true := by decide +kernel
set_option maxRecDepth 65536 in
theorem w_runnable : about1.curStatus? = some .runnable := by decide +kernel
set_option maxRecDepth 65536 in
theorem w_alone : about1.alone = true := by decide +kernel
set_option maxRecDepth 65536 in
theorem w_named : about1.methodNamed? x = some theMethod := by decide +kernel
set_option maxRecDepth 65536 in
theorem w_hears : about1.hears theMethod below0 = true := by decide +kernel
set_option maxRecDepth 65536 in
theorem w_ripe : about1.ripe theMethod args0 below0 = true := by decide +kernel
theorem w_running : about1.status = .running := rfl
set_option maxRecDepth 65536 in
theorem w_room : about1.hasRoom e0.platform room_1 = true :=
  launch0.hasRoom_least _ room_1 (by decide +kernel) (by decide +kernel) (by decide +kernel) (by decide +kernel) (by decide +kernel) (by decide +kernel)
theorem allAtoms_all (ts : List Jvm.Cond) (a : Array Jvm.Value) (st : Jvm.State) : (allAtoms ts).before a st = ts.all (fun c => c.before a st) := by
  induction ts with
  | nil => rfl
  | cons c t ih =>
    show (Jvm.Cond.and c (allAtoms t)).before a st = _
    rw [Jvm.Cond.before_and, ih, List.all_cons]
def words1 : List Jvm.Cond := Jvm.Cond.code x code maxLocals ret :: tables_1
/-- a 'code' word, met by the world's own term for the bytes: nothing is compared byte by byte -/
theorem code_word {y : MethodName} {bytes : ByteArray} {mx : Nat} {rt : Option FieldType} {a : Array Value} {s : State} {m : MethodId} {meth : Method} {c : Code} (h1 : s.methodNamed? y = some m) (h2 : s.vm.method? m = some meth) (h3 : meth.code = some c) (h4 : c.code = bytes)
    (h5 : (c.maxLocals == mx && c.exceptionTable.isEmpty && decide (c.maxStack ≤ mostOperands) && decide (meth.sig.returnType = rt) && !meth.locks && decide (parseMethodDescriptor y.desc = some meth.sig)) = true) : (Jvm.Cond.code y bytes mx rt).before a s = true := by
  simp only [Bool.and_eq_true, beq_iff_eq, Bool.not_eq_true', decide_eq_true_eq] at h5
  obtain ⟨⟨⟨⟨⟨g1, g2⟩, g3⟩, g4⟩, g5⟩, g6⟩ := h5
  simp [Cond.before, Cond.holds, Cond.value, h1, h2, h3, h4, g1, g2, g3, g4, g5, g6]
def isCode : Jvm.Cond → Bool
  | .code _ _ _ _ => true
  | _ => false
theorem all_split {L : List Jvm.Cond} {P : Jvm.Cond → Bool} (h1 : L.all (fun c => isCode c || P c) = true) (h2 : ∀ c ∈ L.filter isCode, P c = true) : L.all P = true := by
  refine List.all_eq_true.mpr fun c hc => ?_
  have h := List.all_eq_true.mp h1 c hc
  rcases Bool.eq_false_or_eq_true (isCode c) with hi | hi
  · exact h2 c (List.mem_filter.mpr ⟨hc, hi⟩)
  · simpa [hi] using h
set_option maxRecDepth 65536 in
theorem w_c0 : (Jvm.Cond.code x code maxLocals ret).before args0 about1 = true := code_word (m := ⟨1, 1⟩) (meth := k1m1) (c := k1c1) (by decide +kernel) rfl rfl rfl (by decide +kernel)
set_option maxRecDepth 65536 in
theorem w_c1 : (Jvm.Cond.code ({ cls := "com/example/tuned_conveyor/tunedconveyor/Allocation", name := "weights", desc := "([J[J[D)[D" } : Jvm.MethodName) prog_1_method_17_code (6 : Nat) (Option.some (Jvm.ClassFile.FieldType.array Jvm.ClassFile.FieldType.double))).before args0 about1 = true := code_word (m := ⟨2, 1⟩) (meth := k2m1) (c := k2c1) (by decide +kernel) rfl rfl rfl (by decide +kernel)
set_option maxRecDepth 65536 in
theorem w_c2 : (Jvm.Cond.code ({ cls := "com/example/tuned_conveyor/tunedconveyor/Allocation", name := "serviceTimes", desc := "([J[D)[D" } : Jvm.MethodName) prog_1_method_18_code (9 : Nat) (Option.some (Jvm.ClassFile.FieldType.array Jvm.ClassFile.FieldType.double))).before args0 about1 = true := code_word (m := ⟨2, 2⟩) (meth := k2m2) (c := k2c2) (by decide +kernel) rfl rfl rfl (by decide +kernel)
def codes1 : List Jvm.Cond := [Jvm.Cond.code x code maxLocals ret, Jvm.Cond.code ({ cls := "com/example/tuned_conveyor/tunedconveyor/Allocation", name := "weights", desc := "([J[J[D)[D" } : Jvm.MethodName) prog_1_method_17_code (6 : Nat) (Option.some (Jvm.ClassFile.FieldType.array Jvm.ClassFile.FieldType.double)), Jvm.Cond.code ({ cls := "com/example/tuned_conveyor/tunedconveyor/Allocation", name := "serviceTimes", desc := "([J[D)[D" } : Jvm.MethodName) prog_1_method_18_code (9 : Nat) (Option.some (Jvm.ClassFile.FieldType.array Jvm.ClassFile.FieldType.double))]
set_option maxRecDepth 65536 in
theorem codes_eq : words1.filter isCode = codes1 := rfl
theorem w_codes : ∀ c ∈ words1.filter isCode, c.before args0 about1 = true := by
  rw [codes_eq]
  intro c hc
  simp only [codes1, List.mem_cons, List.not_mem_nil, or_false] at hc
  rcases hc with rfl | rfl | rfl
  · exact w_c0
  · exact w_c1
  · exact w_c2
set_option maxRecDepth 65536 in
theorem w_t1 : words1.all (fun c => isCode c || c.before args0 about1) = true := by decide +kernel
theorem w_tables : (allAtoms (Jvm.Cond.code x code maxLocals ret :: tables_1)).before args0 about1 = true := by
  rw [allAtoms_all]
  show words1.all (fun c => c.before args0 about1) = true
  refine all_split ?_ w_codes
  rw [w_t1]
set_option maxRecDepth 65536 in
theorem w_case : (Jvm.Cond.and given_1 narrow_1).before args0 about1 = true := by decide +kernel
theorem w_applies : (headSpec (Jvm.Cond.code x code maxLocals ret :: tables_1) room_1).applies x e0.platform about1 = true :=
  (Spec.applies_iff w_frames).mpr ⟨w_running, w_runnable, w_alone, w_named, w_hears, w_ripe, w_room, w_tables⟩
theorem atStart : AtStart classFile x code maxLocals ret World_1 tables_1 room_1 Calls_1 rest_1 Pre_1 launch0 p0 e0 about1 theMethod args0 below0 :=
  ⟨lists_1, trivial, launch0.admits_env _ _ _, launch0.least_env, fairChoices_fair.cas, fairChoices_fair.clock, w_frames, w_args, w_heap, w_applies, trivial, trivial, w_case⟩
end start1
theorem witness_1 : WitnessClaimed_1 := ⟨start1.p0, start1.e0, start1.about1, start1.theMethod, start1.args0, start1.below0, start1.atStart⟩
end Jvm.Pilot.@@N@@
