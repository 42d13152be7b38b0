import JvmDerived
import JvmDerived.Pilot.@@N@@Statement
import JvmDerived.Pilot.@@N@@Code
set_option linter.unusedVariables false
set_option linter.unusedSimpArgs false
@@BLOCK:NumsL.lean.txt@@
namespace Jvm.Pilot.@@N@@
open Jvm Jvm.ClassFile Sem Op Lib Jvm.Free Jvm.Stand Jvm.LawKit Jvm.RoadKit Bundle Jvm.Pilot.@@N@@.Jvm.D
/-! ## The walk layer: where a walk stands (On), what is fixed in it (Cx), the goal (Gl), a method's contract (Con) -/
def On (p : Program) (l : Launch) (e : Env) (R : Room) (s : State) (m : MethodId) (args : Array Value) (below : List Frame) (meth : Method) (c : Code) (n0 : Nat) (T : State) (h : Heap) (k n : Nat) : Prop :=
  ∃ locs, Stand p l e R s m args below meth c T locs k n ∧ Fr n0 locs ∧ T.heap = h
def Cx (p : Program) (s : State) (m : MethodId) (meth : Method) (c : Code) (Z : State) (own name : String) (cod : ByteArray) (maxL : Nat) (ret : Option FieldType) : Prop :=
  p.tables.exec = Jvm.exec ∧ Z.Warmed39 s.vm ∧ c.code = cod ∧ c.maxLocals = maxL ∧ s.vm.findClass own = some m.cls ∧ meth.name = name ∧ meth.sig.returnType = ret ∧ meth.locks = false
def Gl (p : Program) (e : Env) (below : List Frame) (s : State) (R : Room) (n0 : Nat) (Q : Option Value → Heap → Prop) (T : State) (g : JFrame) : Prop :=
  ∃ s₂ o, Steps p.tables e below (T.setTop g) s₂ ∧ s₂.status = .running ∧ Ended s₂ below o ∧ ∃ v L, o = .returned v ∧ (Q v s₂.heap ∧ Fr n0 L) ∧ FrameEnd s o s₂ L R.cells R.slots
def Con (l : Launch) (Z : State) (y : MethodName) (cod : ByteArray) (maxL : Nat) (ret : Option FieldType) (rm : Room) (as : Array Value) (h0 : Heap) (n0 : Nat) (Q : Option Value → Heap → Prop) : Prop :=
  ∀ ws, MetFree l y (head1 (Jvm.Cond.code y cod maxL ret :: ws) rm) (fun a U => a = as ∧ Z.Warmed39 U.vm ∧ U.heap = h0) (fun _ _ _ _ _ => True) (fun _ U o U' => ∃ v L, o = .returned v ∧ (Q v U'.heap ∧ Fr n0 L) ∧ FrameEnd U o U' L rm.cells rm.slots)
section OwnKit
variable {p : Program} {l : Launch} {e : Env} {R : Room} {s : State} {m : MethodId} {args : Array Value} {below : List Frame} {meth : Method} {c : Code} {Z : State} {a0 : Array Value} {n0 : Nat} {T : State} {h h' h0 : Heap} {k n : Nat} {own name : String} {cod : ByteArray} {maxL : Nat} {ret : Option FieldType} {Q : Option Value → Heap → Prop} {pc pc' pf : Nat} {L L' : Array Slot} {r : List Value} {a b : Addr}
theorem Gl.st {T' : State} {g g' : JFrame} (kk : Gl p e below s R n0 Q T' g') (hs : ∀ t, Steps p.tables e below (T'.setTop g') t → Steps p.tables e below (T.setTop g) t) : Gl p e below s R n0 Q T g := by
  obtain ⟨s2, o, h1, q⟩ := kk; exact ⟨s2, o, hs _ h1, q⟩
theorem Con.of {y : MethodName} {rm : Room} {as : Array Value} (hpl : plainFor y = true) {L0 : Array Slot} (hef : ∀ m, entryFrame m as maxL = mkF m 0 L0 [])
    (body : ∀ (p : Program) (e : Env) (s : State) (m : MethodId) (below : List Frame) (meth : Method) (c : Code) (T : State), Cx p s m meth c Z y.cls y.name cod maxL ret → On p l e rm s m as below meth c n0 T h0 0 0 → Gl p e below s rm n0 Q T (mkF m 0 L0 [])) :
    Con l Z y cod maxL ret rm as h0 n0 Q := by
  intro ws
  refine MetFree.of_bodySF hpl hisR ?_
  intro p e s m args below meth c s₁ Bd hml0 hP hK
  obtain ⟨rfl, hZ, hh⟩ := hP
  have e0 : s₁.heap = h0 := by rw [← hh, Bd.state]; rfl
  have q := body p e s m below meth c s₁ ⟨Bd.exec, hZ, Bd.bytes, hml0, findClass_of_methodNamed Bd.named, (name_of_methodNamed Bd.named Bd.method).1, Bd.returns, Bd.notSynchronized⟩ ⟨[], Stand.of_body Bd, Fr.nil n0, e0⟩
  rw [← hef m] at q
  exact q
theorem Con.imp {y : MethodName} {rm : Room} {as : Array Value} {Q' : Option Value → Heap → Prop} (K : Con l Z y cod maxL ret rm as h0 n0 Q) (hq : ∀ v h, Q v h → Q' v h) : Con l Z y cod maxL ret rm as h0 n0 Q' := by
  intro ws p e ha hc hk s m args below hf happ hP hK
  obtain ⟨n, o, h1, h2, h3, v, L, h4, ⟨h5, h6⟩, h7⟩ := K ws p e ha hc hk s m args below hf happ hP hK
  exact ⟨n, o, h1, h2, h3, v, L, h4, ⟨hq _ _ h5, h6⟩, h7⟩
theorem g_iload (C : Cx p s m meth c Z own name cod maxL ret) (S : On p l e R s m args below meth c n0 T h k n) {i : Nat} {v : Int32} (hd : decode cod pc = .ok (.iload i, 2)) (hp : pc + 2 = pc') (hl : L[i]? = some (.val (.int v))) (kk : Gl p e below s R n0 Q T (mkF m pc' L (.int v :: r))) : Gl p e below s R n0 Q T (mkF m pc L r) := by
  obtain ⟨locs, X, -⟩ := S; subst hp
  exact kk.st fun _ q => XS.iload X.here C.1 rfl (hb C.2.2.1 hd) hl q
theorem g_iloadN (C : Cx p s m meth c Z own name cod maxL ret) (S : On p l e R s m args below meth c n0 T h k n) {i : Fin 4} {v : Int32} (hd : decode cod pc = .ok (.iload_n i, 1)) (hp : pc + 1 = pc') (hl : L[i.val]? = some (.val (.int v))) (kk : Gl p e below s R n0 Q T (mkF m pc' L (.int v :: r))) : Gl p e below s R n0 Q T (mkF m pc L r) := by
  obtain ⟨locs, X, -⟩ := S; subst hp
  exact kk.st fun _ q => XS.iloadN X.here C.1 rfl (hb C.2.2.1 hd) hl q
theorem g_istore (C : Cx p s m meth c Z own name cod maxL ret) (S : On p l e R s m args below meth c n0 T h k n) {i : Nat} {v : Int32} (hd : decode cod pc = .ok (.istore i, 2)) (hp : pc + 2 = pc') (hl : storeLocals L i (.int v) = some L') (kk : Gl p e below s R n0 Q T (mkF m pc' L' r)) : Gl p e below s R n0 Q T (mkF m pc L (.int v :: r)) := by
  obtain ⟨locs, X, -⟩ := S; subst hp
  exact kk.st fun _ q => XS.istore X.here C.1 rfl (hb C.2.2.1 hd) rfl hl q
theorem g_istoreN (C : Cx p s m meth c Z own name cod maxL ret) (S : On p l e R s m args below meth c n0 T h k n) {i : Fin 4} {v : Int32} (hd : decode cod pc = .ok (.istore_n i, 1)) (hp : pc + 1 = pc') (hl : storeLocals L i.val (.int v) = some L') (kk : Gl p e below s R n0 Q T (mkF m pc' L' r)) : Gl p e below s R n0 Q T (mkF m pc L (.int v :: r)) := by
  obtain ⟨locs, X, -⟩ := S; subst hp
  exact kk.st fun _ q => XS.istoreN X.here C.1 rfl (hb C.2.2.1 hd) rfl hl q
theorem g_lload (C : Cx p s m meth c Z own name cod maxL ret) (S : On p l e R s m args below meth c n0 T h k n) {i : Nat} {v : Int64} (hd : decode cod pc = .ok (.lload i, 2)) (hp : pc + 2 = pc') (hl : L[i]? = some (.val (.long v))) (kk : Gl p e below s R n0 Q T (mkF m pc' L (.long v :: r))) : Gl p e below s R n0 Q T (mkF m pc L r) := by
  obtain ⟨locs, X, -⟩ := S; subst hp
  exact kk.st fun _ q => XS.lload X.here C.1 rfl (hb C.2.2.1 hd) hl q
theorem g_lloadN (C : Cx p s m meth c Z own name cod maxL ret) (S : On p l e R s m args below meth c n0 T h k n) {i : Fin 4} {v : Int64} (hd : decode cod pc = .ok (.lload_n i, 1)) (hp : pc + 1 = pc') (hl : L[i.val]? = some (.val (.long v))) (kk : Gl p e below s R n0 Q T (mkF m pc' L (.long v :: r))) : Gl p e below s R n0 Q T (mkF m pc L r) := by
  obtain ⟨locs, X, -⟩ := S; subst hp
  exact kk.st fun _ q => XS.lloadN X.here C.1 rfl (hb C.2.2.1 hd) hl q
theorem g_lstore (C : Cx p s m meth c Z own name cod maxL ret) (S : On p l e R s m args below meth c n0 T h k n) {i : Nat} {v : Int64} (hd : decode cod pc = .ok (.lstore i, 2)) (hp : pc + 2 = pc') (hl : storeLocals L i (.long v) = some L') (kk : Gl p e below s R n0 Q T (mkF m pc' L' r)) : Gl p e below s R n0 Q T (mkF m pc L (.long v :: r)) := by
  obtain ⟨locs, X, -⟩ := S; subst hp
  exact kk.st fun _ q => XS.lstore X.here C.1 rfl (hb C.2.2.1 hd) rfl hl q
theorem g_lstoreN (C : Cx p s m meth c Z own name cod maxL ret) (S : On p l e R s m args below meth c n0 T h k n) {i : Fin 4} {v : Int64} (hd : decode cod pc = .ok (.lstore_n i, 1)) (hp : pc + 1 = pc') (hl : storeLocals L i.val (.long v) = some L') (kk : Gl p e below s R n0 Q T (mkF m pc' L' r)) : Gl p e below s R n0 Q T (mkF m pc L (.long v :: r)) := by
  obtain ⟨locs, X, -⟩ := S; subst hp
  exact kk.st fun _ q => XS.lstoreN X.here C.1 rfl (hb C.2.2.1 hd) rfl hl q
theorem g_aload (C : Cx p s m meth c Z own name cod maxL ret) (S : On p l e R s m args below meth c n0 T h k n) {i : Nat} {v : Value} (hd : decode cod pc = .ok (.aload i, 2)) (hp : pc + 2 = pc') (hl : L[i]? = some (.val v)) (hv : v.isRef = true) (kk : Gl p e below s R n0 Q T (mkF m pc' L (v :: r))) : Gl p e below s R n0 Q T (mkF m pc L r) := by
  obtain ⟨locs, X, -⟩ := S; subst hp
  exact kk.st fun _ q => XS.aload X.here C.1 rfl (hb C.2.2.1 hd) hl hv q
theorem g_aloadN (C : Cx p s m meth c Z own name cod maxL ret) (S : On p l e R s m args below meth c n0 T h k n) {i : Fin 4} {v : Value} (hd : decode cod pc = .ok (.aload_n i, 1)) (hp : pc + 1 = pc') (hl : L[i.val]? = some (.val v)) (hv : v.isRef = true) (kk : Gl p e below s R n0 Q T (mkF m pc' L (v :: r))) : Gl p e below s R n0 Q T (mkF m pc L r) := by
  obtain ⟨locs, X, -⟩ := S; subst hp
  exact kk.st fun _ q => XS.aloadN X.here C.1 rfl (hb C.2.2.1 hd) hl hv q
theorem g_astore (C : Cx p s m meth c Z own name cod maxL ret) (S : On p l e R s m args below meth c n0 T h k n) {i : Nat} {v : Value} (hd : decode cod pc = .ok (.astore i, 2)) (hp : pc + 2 = pc') (hv : v.isRef = true) (hl : storeLocals L i v = some L') (kk : Gl p e below s R n0 Q T (mkF m pc' L' r)) : Gl p e below s R n0 Q T (mkF m pc L (v :: r)) := by
  obtain ⟨locs, X, -⟩ := S; subst hp
  exact kk.st fun _ q => XS.astore X.here C.1 rfl (hb C.2.2.1 hd) rfl hv hl q
theorem g_astoreN (C : Cx p s m meth c Z own name cod maxL ret) (S : On p l e R s m args below meth c n0 T h k n) {i : Fin 4} {v : Value} (hd : decode cod pc = .ok (.astore_n i, 1)) (hp : pc + 1 = pc') (hv : v.isRef = true) (hl : storeLocals L i.val v = some L') (kk : Gl p e below s R n0 Q T (mkF m pc' L' r)) : Gl p e below s R n0 Q T (mkF m pc L (v :: r)) := by
  obtain ⟨locs, X, -⟩ := S; subst hp
  exact kk.st fun _ q => XS.astoreN X.here C.1 rfl (hb C.2.2.1 hd) rfl hv hl q
theorem g_iconst (C : Cx p s m meth c Z own name cod maxL ret) (S : On p l e R s m args below meth c n0 T h k n) {i : Int} (v : Int32) (hd : decode cod pc = .ok (.iconst i, 1)) (hp : pc + 1 = pc') (hv : Int32.ofInt i = v) (kk : Gl p e below s R n0 Q T (mkF m pc' L (.int v :: r))) : Gl p e below s R n0 Q T (mkF m pc L r) := by
  obtain ⟨locs, X, -⟩ := S; subst hp hv
  exact kk.st fun _ q => XS.iconst X.here C.1 rfl (hb C.2.2.1 hd) q
theorem g_bipush (C : Cx p s m meth c Z own name cod maxL ret) (S : On p l e R s m args below meth c n0 T h k n) {i : Int} (v : Int32) (hd : decode cod pc = .ok (.bipush i, 2)) (hp : pc + 2 = pc') (hv : (Int8.ofInt i).toInt32 = v) (kk : Gl p e below s R n0 Q T (mkF m pc' L (.int v :: r))) : Gl p e below s R n0 Q T (mkF m pc L r) := by
  obtain ⟨locs, X, -⟩ := S; subst hp hv
  exact kk.st fun _ q => XS.bipush X.here C.1 rfl (hb C.2.2.1 hd) q
theorem g_sipush (C : Cx p s m meth c Z own name cod maxL ret) (S : On p l e R s m args below meth c n0 T h k n) {i : Int} (v : Int32) (hd : decode cod pc = .ok (.sipush i, 3)) (hp : pc + 3 = pc') (hv : (Int16.ofInt i).toInt32 = v) (kk : Gl p e below s R n0 Q T (mkF m pc' L (.int v :: r))) : Gl p e below s R n0 Q T (mkF m pc L r) := by
  obtain ⟨locs, X, -⟩ := S; subst hp hv
  exact kk.st fun _ q => XS.sipush X.here C.1 rfl (hb C.2.2.1 hd) q
theorem g_lconst (C : Cx p s m meth c Z own name cod maxL ret) (S : On p l e R s m args below meth c n0 T h k n) {i : Fin 2} (v : Int64) (hd : decode cod pc = .ok (.lconst i, 1)) (hp : pc + 1 = pc') (hv : Int64.ofNat i = v) (kk : Gl p e below s R n0 Q T (mkF m pc' L (.long v :: r))) : Gl p e below s R n0 Q T (mkF m pc L r) := by
  obtain ⟨locs, X, -⟩ := S; subst hp hv
  exact kk.st fun _ q => XS.lconst X.here C.1 rfl (hb C.2.2.1 hd) q
theorem g_aconst_null (C : Cx p s m meth c Z own name cod maxL ret) (S : On p l e R s m args below meth c n0 T h k n) (hd : decode cod pc = .ok (.aconst_null, 1)) (hp : pc + 1 = pc') (kk : Gl p e below s R n0 Q T (mkF m pc' L (.null :: r))) : Gl p e below s R n0 Q T (mkF m pc L r) := by
  obtain ⟨locs, X, -⟩ := S; subst hp
  exact kk.st fun _ q => XS.aconstNull X.here C.1 rfl (hb C.2.2.1 hd) q
theorem g_iadd (C : Cx p s m meth c Z own name cod maxL ret) (S : On p l e R s m args below meth c n0 T h k n) {x y : Int32} (hd : decode cod pc = .ok (.iadd, 1)) (hp : pc + 1 = pc') (kk : Gl p e below s R n0 Q T (mkF m pc' L (.int (x + y) :: r))) : Gl p e below s R n0 Q T (mkF m pc L (.int y :: .int x :: r)) := by
  obtain ⟨locs, X, -⟩ := S; subst hp
  exact kk.st fun _ q => XS.iadd X.here C.1 rfl (hb C.2.2.1 hd) rfl q
theorem g_isub (C : Cx p s m meth c Z own name cod maxL ret) (S : On p l e R s m args below meth c n0 T h k n) {x y : Int32} (hd : decode cod pc = .ok (.isub, 1)) (hp : pc + 1 = pc') (kk : Gl p e below s R n0 Q T (mkF m pc' L (.int (x - y) :: r))) : Gl p e below s R n0 Q T (mkF m pc L (.int y :: .int x :: r)) := by
  obtain ⟨locs, X, -⟩ := S; subst hp
  exact kk.st fun _ q => XS.isub X.here C.1 rfl (hb C.2.2.1 hd) rfl q
theorem g_imul (C : Cx p s m meth c Z own name cod maxL ret) (S : On p l e R s m args below meth c n0 T h k n) {x y : Int32} (hd : decode cod pc = .ok (.imul, 1)) (hp : pc + 1 = pc') (kk : Gl p e below s R n0 Q T (mkF m pc' L (.int (x * y) :: r))) : Gl p e below s R n0 Q T (mkF m pc L (.int y :: .int x :: r)) := by
  obtain ⟨locs, X, -⟩ := S; subst hp
  exact kk.st fun _ q => XS.imul X.here C.1 rfl (hb C.2.2.1 hd) rfl q
theorem g_iand (C : Cx p s m meth c Z own name cod maxL ret) (S : On p l e R s m args below meth c n0 T h k n) {x y : Int32} (hd : decode cod pc = .ok (.iand, 1)) (hp : pc + 1 = pc') (kk : Gl p e below s R n0 Q T (mkF m pc' L (.int (x &&& y) :: r))) : Gl p e below s R n0 Q T (mkF m pc L (.int y :: .int x :: r)) := by
  obtain ⟨locs, X, -⟩ := S; subst hp
  exact kk.st fun _ q => XS.iand X.here C.1 rfl (hb C.2.2.1 hd) rfl q
theorem g_ior (C : Cx p s m meth c Z own name cod maxL ret) (S : On p l e R s m args below meth c n0 T h k n) {x y : Int32} (hd : decode cod pc = .ok (.ior, 1)) (hp : pc + 1 = pc') (kk : Gl p e below s R n0 Q T (mkF m pc' L (.int (x ||| y) :: r))) : Gl p e below s R n0 Q T (mkF m pc L (.int y :: .int x :: r)) := by
  obtain ⟨locs, X, -⟩ := S; subst hp
  exact kk.st fun _ q => XS.ior X.here C.1 rfl (hb C.2.2.1 hd) rfl q
theorem g_ixor (C : Cx p s m meth c Z own name cod maxL ret) (S : On p l e R s m args below meth c n0 T h k n) {x y : Int32} (hd : decode cod pc = .ok (.ixor, 1)) (hp : pc + 1 = pc') (kk : Gl p e below s R n0 Q T (mkF m pc' L (.int (x ^^^ y) :: r))) : Gl p e below s R n0 Q T (mkF m pc L (.int y :: .int x :: r)) := by
  obtain ⟨locs, X, -⟩ := S; subst hp
  exact kk.st fun _ q => XS.ixor X.here C.1 rfl (hb C.2.2.1 hd) rfl q
theorem g_ladd (C : Cx p s m meth c Z own name cod maxL ret) (S : On p l e R s m args below meth c n0 T h k n) {x y : Int64} (hd : decode cod pc = .ok (.ladd, 1)) (hp : pc + 1 = pc') (kk : Gl p e below s R n0 Q T (mkF m pc' L (.long (x + y) :: r))) : Gl p e below s R n0 Q T (mkF m pc L (.long y :: .long x :: r)) := by
  obtain ⟨locs, X, -⟩ := S; subst hp
  exact kk.st fun _ q => XS.ladd X.here C.1 rfl (hb C.2.2.1 hd) rfl q
theorem g_lsub (C : Cx p s m meth c Z own name cod maxL ret) (S : On p l e R s m args below meth c n0 T h k n) {x y : Int64} (hd : decode cod pc = .ok (.lsub, 1)) (hp : pc + 1 = pc') (kk : Gl p e below s R n0 Q T (mkF m pc' L (.long (x - y) :: r))) : Gl p e below s R n0 Q T (mkF m pc L (.long y :: .long x :: r)) := by
  obtain ⟨locs, X, -⟩ := S; subst hp
  exact kk.st fun _ q => XS.lsub X.here C.1 rfl (hb C.2.2.1 hd) rfl q
theorem g_lmul (C : Cx p s m meth c Z own name cod maxL ret) (S : On p l e R s m args below meth c n0 T h k n) {x y : Int64} (hd : decode cod pc = .ok (.lmul, 1)) (hp : pc + 1 = pc') (kk : Gl p e below s R n0 Q T (mkF m pc' L (.long (x * y) :: r))) : Gl p e below s R n0 Q T (mkF m pc L (.long y :: .long x :: r)) := by
  obtain ⟨locs, X, -⟩ := S; subst hp
  exact kk.st fun _ q => XS.lmul X.here C.1 rfl (hb C.2.2.1 hd) rfl q
theorem g_land (C : Cx p s m meth c Z own name cod maxL ret) (S : On p l e R s m args below meth c n0 T h k n) {x y : Int64} (hd : decode cod pc = .ok (.land, 1)) (hp : pc + 1 = pc') (kk : Gl p e below s R n0 Q T (mkF m pc' L (.long (x &&& y) :: r))) : Gl p e below s R n0 Q T (mkF m pc L (.long y :: .long x :: r)) := by
  obtain ⟨locs, X, -⟩ := S; subst hp
  exact kk.st fun _ q => XS.land X.here C.1 rfl (hb C.2.2.1 hd) rfl q
theorem g_lor (C : Cx p s m meth c Z own name cod maxL ret) (S : On p l e R s m args below meth c n0 T h k n) {x y : Int64} (hd : decode cod pc = .ok (.lor, 1)) (hp : pc + 1 = pc') (kk : Gl p e below s R n0 Q T (mkF m pc' L (.long (x ||| y) :: r))) : Gl p e below s R n0 Q T (mkF m pc L (.long y :: .long x :: r)) := by
  obtain ⟨locs, X, -⟩ := S; subst hp
  exact kk.st fun _ q => XS.lor X.here C.1 rfl (hb C.2.2.1 hd) rfl q
theorem g_lxor (C : Cx p s m meth c Z own name cod maxL ret) (S : On p l e R s m args below meth c n0 T h k n) {x y : Int64} (hd : decode cod pc = .ok (.lxor, 1)) (hp : pc + 1 = pc') (kk : Gl p e below s R n0 Q T (mkF m pc' L (.long (x ^^^ y) :: r))) : Gl p e below s R n0 Q T (mkF m pc L (.long y :: .long x :: r)) := by
  obtain ⟨locs, X, -⟩ := S; subst hp
  exact kk.st fun _ q => XS.lxor X.here C.1 rfl (hb C.2.2.1 hd) rfl q
theorem g_ishl (C : Cx p s m meth c Z own name cod maxL ret) (S : On p l e R s m args below meth c n0 T h k n) {x y : Int32} (hd : decode cod pc = .ok (.ishl, 1)) (hp : pc + 1 = pc') (kk : Gl p e below s R n0 Q T (mkF m pc' L (.int (x <<< (y &&& 31)) :: r))) : Gl p e below s R n0 Q T (mkF m pc L (.int y :: .int x :: r)) := by
  obtain ⟨locs, X, -⟩ := S; subst hp
  exact kk.st fun _ q => XS.ishl X.here C.1 rfl (hb C.2.2.1 hd) rfl q
theorem g_ishr (C : Cx p s m meth c Z own name cod maxL ret) (S : On p l e R s m args below meth c n0 T h k n) {x y : Int32} (hd : decode cod pc = .ok (.ishr, 1)) (hp : pc + 1 = pc') (kk : Gl p e below s R n0 Q T (mkF m pc' L (.int (x >>> (y &&& 31)) :: r))) : Gl p e below s R n0 Q T (mkF m pc L (.int y :: .int x :: r)) := by
  obtain ⟨locs, X, -⟩ := S; subst hp
  exact kk.st fun _ q => XS.ishr X.here C.1 rfl (hb C.2.2.1 hd) rfl q
theorem g_iushr (C : Cx p s m meth c Z own name cod maxL ret) (S : On p l e R s m args below meth c n0 T h k n) {x y : Int32} (hd : decode cod pc = .ok (.iushr, 1)) (hp : pc + 1 = pc') (kk : Gl p e below s R n0 Q T (mkF m pc' L (.int ((x.toUInt32 >>> (y &&& 31).toUInt32).toInt32) :: r))) : Gl p e below s R n0 Q T (mkF m pc L (.int y :: .int x :: r)) := by
  obtain ⟨locs, X, -⟩ := S; subst hp
  exact kk.st fun _ q => XS.iushr X.here C.1 rfl (hb C.2.2.1 hd) rfl q
theorem g_lshl (C : Cx p s m meth c Z own name cod maxL ret) (S : On p l e R s m args below meth c n0 T h k n) {x : Int64} {y : Int32} (hd : decode cod pc = .ok (.lshl, 1)) (hp : pc + 1 = pc') (kk : Gl p e below s R n0 Q T (mkF m pc' L (.long (x <<< (y &&& 0x3f).toInt64) :: r))) : Gl p e below s R n0 Q T (mkF m pc L (.int y :: .long x :: r)) := by
  obtain ⟨locs, X, -⟩ := S; subst hp
  exact kk.st fun _ q => XS.lshl X.here C.1 rfl (hb C.2.2.1 hd) rfl q
theorem g_lshr (C : Cx p s m meth c Z own name cod maxL ret) (S : On p l e R s m args below meth c n0 T h k n) {x : Int64} {y : Int32} (hd : decode cod pc = .ok (.lshr, 1)) (hp : pc + 1 = pc') (kk : Gl p e below s R n0 Q T (mkF m pc' L (.long (x >>> (y &&& 0x3f).toInt64) :: r))) : Gl p e below s R n0 Q T (mkF m pc L (.int y :: .long x :: r)) := by
  obtain ⟨locs, X, -⟩ := S; subst hp
  exact kk.st fun _ q => XS.lshr X.here C.1 rfl (hb C.2.2.1 hd) rfl q
theorem g_lushr (C : Cx p s m meth c Z own name cod maxL ret) (S : On p l e R s m args below meth c n0 T h k n) {x : Int64} {y : Int32} (hd : decode cod pc = .ok (.lushr, 1)) (hp : pc + 1 = pc') (kk : Gl p e below s R n0 Q T (mkF m pc' L (.long ((x.toUInt64 >>> (y &&& 0x3f).toInt64.toUInt64).toInt64) :: r))) : Gl p e below s R n0 Q T (mkF m pc L (.int y :: .long x :: r)) := by
  obtain ⟨locs, X, -⟩ := S; subst hp
  exact kk.st fun _ q => XS.lushr X.here C.1 rfl (hb C.2.2.1 hd) rfl q
theorem g_i2l (C : Cx p s m meth c Z own name cod maxL ret) (S : On p l e R s m args below meth c n0 T h k n) {x : Int32} (hd : decode cod pc = .ok (.i2l, 1)) (hp : pc + 1 = pc') (kk : Gl p e below s R n0 Q T (mkF m pc' L (.long (x.toInt64) :: r))) : Gl p e below s R n0 Q T (mkF m pc L (.int x :: r)) := by
  obtain ⟨locs, X, -⟩ := S; subst hp
  exact kk.st fun _ q => XS.i2l X.here C.1 rfl (hb C.2.2.1 hd) rfl q
theorem g_l2i (C : Cx p s m meth c Z own name cod maxL ret) (S : On p l e R s m args below meth c n0 T h k n) {x : Int64} (hd : decode cod pc = .ok (.l2i, 1)) (hp : pc + 1 = pc') (kk : Gl p e below s R n0 Q T (mkF m pc' L (.int (x.toInt32) :: r))) : Gl p e below s R n0 Q T (mkF m pc L (.long x :: r)) := by
  obtain ⟨locs, X, -⟩ := S; subst hp
  exact kk.st fun _ q => XS.l2i X.here C.1 rfl (hb C.2.2.1 hd) rfl q
theorem g_i2b (C : Cx p s m meth c Z own name cod maxL ret) (S : On p l e R s m args below meth c n0 T h k n) {x : Int32} (hd : decode cod pc = .ok (.i2b, 1)) (hp : pc + 1 = pc') (kk : Gl p e below s R n0 Q T (mkF m pc' L (.int (x.toInt8.toInt32) :: r))) : Gl p e below s R n0 Q T (mkF m pc L (.int x :: r)) := by
  obtain ⟨locs, X, -⟩ := S; subst hp
  exact kk.st fun _ q => XS.i2b X.here C.1 rfl (hb C.2.2.1 hd) rfl q
theorem g_i2c (C : Cx p s m meth c Z own name cod maxL ret) (S : On p l e R s m args below meth c n0 T h k n) {x : Int32} (hd : decode cod pc = .ok (.i2c, 1)) (hp : pc + 1 = pc') (kk : Gl p e below s R n0 Q T (mkF m pc' L (.int (x.toUInt32.toUInt16.toUInt32.toInt32) :: r))) : Gl p e below s R n0 Q T (mkF m pc L (.int x :: r)) := by
  obtain ⟨locs, X, -⟩ := S; subst hp
  exact kk.st fun _ q => XS.i2c X.here C.1 rfl (hb C.2.2.1 hd) rfl q
theorem g_i2s (C : Cx p s m meth c Z own name cod maxL ret) (S : On p l e R s m args below meth c n0 T h k n) {x : Int32} (hd : decode cod pc = .ok (.i2s, 1)) (hp : pc + 1 = pc') (kk : Gl p e below s R n0 Q T (mkF m pc' L (.int (x.toInt16.toInt32) :: r))) : Gl p e below s R n0 Q T (mkF m pc L (.int x :: r)) := by
  obtain ⟨locs, X, -⟩ := S; subst hp
  exact kk.st fun _ q => XS.i2s X.here C.1 rfl (hb C.2.2.1 hd) rfl q
theorem g_lneg (C : Cx p s m meth c Z own name cod maxL ret) (S : On p l e R s m args below meth c n0 T h k n) {x : Int64} (hd : decode cod pc = .ok (.lneg, 1)) (hp : pc + 1 = pc') (kk : Gl p e below s R n0 Q T (mkF m pc' L (.long (-x) :: r))) : Gl p e below s R n0 Q T (mkF m pc L (.long x :: r)) := by
  obtain ⟨locs, X, -⟩ := S; subst hp
  exact kk.st fun _ q => XS.lneg X.here C.1 rfl (hb C.2.2.1 hd) rfl q
theorem g_ineg (C : Cx p s m meth c Z own name cod maxL ret) (S : On p l e R s m args below meth c n0 T h k n) {x : Int32} (hd : decode cod pc = .ok (.ineg, 1)) (hp : pc + 1 = pc') (kk : Gl p e below s R n0 Q T (mkF m pc' L (.int (-x) :: r))) : Gl p e below s R n0 Q T (mkF m pc L (.int x :: r)) := by
  obtain ⟨locs, X, -⟩ := S; subst hp
  exact kk.st fun _ q => XS.ineg X.here C.1 rfl (hb C.2.2.1 hd) rfl q
theorem g_irem (C : Cx p s m meth c Z own name cod maxL ret) (S : On p l e R s m args below meth c n0 T h k n) {x y : Int32} (hd : decode cod pc = .ok (.irem, 1)) (hp : pc + 1 = pc') (hy : y ≠ 0) (kk : Gl p e below s R n0 Q T (mkF m pc' L (.int (x % y) :: r))) : Gl p e below s R n0 Q T (mkF m pc L (.int y :: .int x :: r)) := by
  obtain ⟨locs, X, -⟩ := S; subst hp
  exact kk.st fun _ q => iremM X C.1 rfl (hb C.2.2.1 hd) rfl hy q
theorem g_idiv (C : Cx p s m meth c Z own name cod maxL ret) (S : On p l e R s m args below meth c n0 T h k n) {x y : Int32} (hd : decode cod pc = .ok (.idiv, 1)) (hp : pc + 1 = pc') (hy : y ≠ 0) (kk : Gl p e below s R n0 Q T (mkF m pc' L (.int (x / y) :: r))) : Gl p e below s R n0 Q T (mkF m pc L (.int y :: .int x :: r)) := by
  obtain ⟨locs, X, -⟩ := S; subst hp
  exact kk.st fun _ q => XS.idiv X.here C.1 rfl (hb C.2.2.1 hd) rfl hy q
theorem g_lcmp (C : Cx p s m meth c Z own name cod maxL ret) (S : On p l e R s m args below meth c n0 T h k n) {x y : Int64} (hd : decode cod pc = .ok (.lcmp, 1)) (hp : pc + 1 = pc') (kk : Gl p e below s R n0 Q T (mkF m pc' L (.int (lcmpW x y) :: r))) : Gl p e below s R n0 Q T (mkF m pc L (.long y :: .long x :: r)) := by
  obtain ⟨locs, X, -⟩ := S; subst hp
  exact kk.st fun _ q => XS.lcmp X.here C.1 rfl (hb C.2.2.1 hd) rfl q
theorem g_dup (C : Cx p s m meth c Z own name cod maxL ret) (S : On p l e R s m args below meth c n0 T h k n) {x : Value} (hd : decode cod pc = .ok (.dup, 1)) (hp : pc + 1 = pc') (hc : x.category = 1) (kk : Gl p e below s R n0 Q T (mkF m pc' L (x :: x :: r))) : Gl p e below s R n0 Q T (mkF m pc L (x :: r)) := by
  obtain ⟨locs, X, -⟩ := S; subst hp
  exact kk.st fun _ q => XS.dup X.here C.1 rfl (hb C.2.2.1 hd) rfl hc q
theorem g_pop (C : Cx p s m meth c Z own name cod maxL ret) (S : On p l e R s m args below meth c n0 T h k n) {x : Value} (hd : decode cod pc = .ok (.pop, 1)) (hp : pc + 1 = pc') (hc : x.category = 1) (kk : Gl p e below s R n0 Q T (mkF m pc' L r)) : Gl p e below s R n0 Q T (mkF m pc L (x :: r)) := by
  obtain ⟨locs, X, -⟩ := S; subst hp
  exact kk.st fun _ q => XS.pop X.here C.1 rfl (hb C.2.2.1 hd) rfl hc q
theorem g_dup_x1 (C : Cx p s m meth c Z own name cod maxL ret) (S : On p l e R s m args below meth c n0 T h k n) {x y : Value} (hd : decode cod pc = .ok (.dup_x1, 1)) (hp : pc + 1 = pc') (hc : x.category = 1) (hc2 : y.category = 1) (kk : Gl p e below s R n0 Q T (mkF m pc' L (x :: y :: x :: r))) : Gl p e below s R n0 Q T (mkF m pc L (x :: y :: r)) := by
  obtain ⟨locs, X, -⟩ := S; subst hp
  exact kk.st fun _ q => XS.dupX1 X.here C.1 rfl (hb C.2.2.1 hd) rfl hc hc2 q
theorem g_dup2 (C : Cx p s m meth c Z own name cod maxL ret) (S : On p l e R s m args below meth c n0 T h k n) {x y : Value} (hd : decode cod pc = .ok (.dup2, 1)) (hp : pc + 1 = pc') (hc : x.category = 1) (hc2 : y.category = 1) (kk : Gl p e below s R n0 Q T (mkF m pc' L (x :: y :: x :: y :: r))) : Gl p e below s R n0 Q T (mkF m pc L (x :: y :: r)) := by
  obtain ⟨locs, X, -⟩ := S; subst hp
  exact kk.st fun _ q => XT.dup2 X.here C.1 rfl (hb C.2.2.1 hd) rfl hc hc2 q
theorem g_iinc (C : Cx p s m meth c Z own name cod maxL ret) (S : On p l e R s m args below meth c n0 T h k n) {i : Nat} {cst : Int} {x : Int32} (v : Int32) (hd : decode cod pc = .ok (.iinc i cst, 3)) (hp : pc + 3 = pc') (hv : Int32.ofInt cst = v) (hl : L[i]? = some (.val (.int x))) (hl' : storeLocals L i (.int (x + v)) = some L') (kk : Gl p e below s R n0 Q T (mkF m pc' L' r)) : Gl p e below s R n0 Q T (mkF m pc L r) := by
  obtain ⟨locs, X, -⟩ := S; subst hp hv
  exact kk.st fun _ q => XS.iinc X.here C.1 rfl (hb C.2.2.1 hd) hl hl' q
theorem g_goto (C : Cx p s m meth c Z own name cod maxL ret) (S : On p l e R s m args below meth c n0 T h k n) {o : Int} (hd : decode cod pc = .ok (.goto o, 3)) (ho : 0 ≤ (pc : Int) + o) (hp : ((pc : Int) + o).toNat = pc') (kk : Gl p e below s R n0 Q T (mkF m pc' L r)) : Gl p e below s R n0 Q T (mkF m pc L r) := by
  obtain ⟨locs, X, -⟩ := S
  exact kk.st fun _ q => XS.goto X.here C.1 rfl rfl (hb C.2.2.1 hd) ho hp q
theorem g_icmp_lt (C : Cx p s m meth c Z own name cod maxL ret) (S : On p l e R s m args below meth c n0 T h k n) {x y : Int32} {o : Int} (hd : decode cod pc = .ok (.if_icmp .lt o, 3)) (ho : 0 ≤ (pc : Int) + o) (hp : ((pc : Int) + o).toNat = pc') (hq : pc + 3 = pf) (ht : x < y → Gl p e below s R n0 Q T (mkF m pc' L r)) (hf : ¬ x < y → Gl p e below s R n0 Q T (mkF m pf L r)) : Gl p e below s R n0 Q T (mkF m pc L (.int y :: .int x :: r)) := by
  obtain ⟨locs, X, -⟩ := S; subst hq
  by_cases q : x < y
  · exact (ht q).st fun _ z => XS.icmpYes X.here C.1 rfl rfl (hb C.2.2.1 hd) rfl ((tlt q).1) ho hp z
  · exact (hf q).st fun _ z => XS.icmpNo X.here C.1 rfl (hb C.2.2.1 hd) rfl ((flt q).1) z
theorem g_if_lt (C : Cx p s m meth c Z own name cod maxL ret) (S : On p l e R s m args below meth c n0 T h k n) {x : Int32} {o : Int} (hd : decode cod pc = .ok (.ifCond .lt o, 3)) (ho : 0 ≤ (pc : Int) + o) (hp : ((pc : Int) + o).toNat = pc') (hq : pc + 3 = pf) (ht : x < (0 : Int32) → Gl p e below s R n0 Q T (mkF m pc' L r)) (hf : ¬ x < (0 : Int32) → Gl p e below s R n0 Q T (mkF m pf L r)) : Gl p e below s R n0 Q T (mkF m pc L (.int x :: r)) := by
  obtain ⟨locs, X, -⟩ := S; subst hq
  by_cases q : x < (0 : Int32)
  · exact (ht q).st fun _ z => XS.ifYes X.here C.1 rfl rfl (hb C.2.2.1 hd) rfl ((if0 _ _).trans (tlt q).1) ho hp z
  · exact (hf q).st fun _ z => XS.ifNo X.here C.1 rfl (hb C.2.2.1 hd) rfl ((if0 _ _).trans (flt q).1) z
theorem g_lif_lt (C : Cx p s m meth c Z own name cod maxL ret) (S : On p l e R s m args below meth c n0 T h k n) {x y : Int64} {o : Int} (hd : decode cod pc = .ok (.ifCond .lt o, 3)) (ho : 0 ≤ (pc : Int) + o) (hp : ((pc : Int) + o).toNat = pc') (hq : pc + 3 = pf) (ht : x < y → Gl p e below s R n0 Q T (mkF m pc' L r)) (hf : ¬ x < y → Gl p e below s R n0 Q T (mkF m pf L r)) : Gl p e below s R n0 Q T (mkF m pc L (.int (lcmpW x y) :: r)) := by
  obtain ⟨locs, X, -⟩ := S; subst hq
  by_cases q : x < y
  · exact (ht q).st fun _ z => XS.ifYes X.here C.1 rfl rfl (hb C.2.2.1 hd) rfl ((if0 _ _).trans (tlt ((lw_lt x y).mpr q)).1) ho hp z
  · exact (hf q).st fun _ z => XS.ifNo X.here C.1 rfl (hb C.2.2.1 hd) rfl ((if0 _ _).trans (flt (fun z => q ((lw_lt x y).mp z))).1) z
theorem g_icmp_ge (C : Cx p s m meth c Z own name cod maxL ret) (S : On p l e R s m args below meth c n0 T h k n) {x y : Int32} {o : Int} (hd : decode cod pc = .ok (.if_icmp .ge o, 3)) (ho : 0 ≤ (pc : Int) + o) (hp : ((pc : Int) + o).toNat = pc') (hq : pc + 3 = pf) (ht : ¬ x < y → Gl p e below s R n0 Q T (mkF m pc' L r)) (hf : x < y → Gl p e below s R n0 Q T (mkF m pf L r)) : Gl p e below s R n0 Q T (mkF m pc L (.int y :: .int x :: r)) := by
  obtain ⟨locs, X, -⟩ := S; subst hq
  by_cases q : x < y
  · exact (hf q).st fun _ z => XS.icmpNo X.here C.1 rfl (hb C.2.2.1 hd) rfl ((tlt q).2.1) z
  · exact (ht q).st fun _ z => XS.icmpYes X.here C.1 rfl rfl (hb C.2.2.1 hd) rfl ((flt q).2.1) ho hp z
theorem g_if_ge (C : Cx p s m meth c Z own name cod maxL ret) (S : On p l e R s m args below meth c n0 T h k n) {x : Int32} {o : Int} (hd : decode cod pc = .ok (.ifCond .ge o, 3)) (ho : 0 ≤ (pc : Int) + o) (hp : ((pc : Int) + o).toNat = pc') (hq : pc + 3 = pf) (ht : ¬ x < (0 : Int32) → Gl p e below s R n0 Q T (mkF m pc' L r)) (hf : x < (0 : Int32) → Gl p e below s R n0 Q T (mkF m pf L r)) : Gl p e below s R n0 Q T (mkF m pc L (.int x :: r)) := by
  obtain ⟨locs, X, -⟩ := S; subst hq
  by_cases q : x < (0 : Int32)
  · exact (hf q).st fun _ z => XS.ifNo X.here C.1 rfl (hb C.2.2.1 hd) rfl ((if0 _ _).trans (tlt q).2.1) z
  · exact (ht q).st fun _ z => XS.ifYes X.here C.1 rfl rfl (hb C.2.2.1 hd) rfl ((if0 _ _).trans (flt q).2.1) ho hp z
theorem g_lif_ge (C : Cx p s m meth c Z own name cod maxL ret) (S : On p l e R s m args below meth c n0 T h k n) {x y : Int64} {o : Int} (hd : decode cod pc = .ok (.ifCond .ge o, 3)) (ho : 0 ≤ (pc : Int) + o) (hp : ((pc : Int) + o).toNat = pc') (hq : pc + 3 = pf) (ht : ¬ x < y → Gl p e below s R n0 Q T (mkF m pc' L r)) (hf : x < y → Gl p e below s R n0 Q T (mkF m pf L r)) : Gl p e below s R n0 Q T (mkF m pc L (.int (lcmpW x y) :: r)) := by
  obtain ⟨locs, X, -⟩ := S; subst hq
  by_cases q : x < y
  · exact (hf q).st fun _ z => XS.ifNo X.here C.1 rfl (hb C.2.2.1 hd) rfl ((if0 _ _).trans (tlt ((lw_lt x y).mpr q)).2.1) z
  · exact (ht q).st fun _ z => XS.ifYes X.here C.1 rfl rfl (hb C.2.2.1 hd) rfl ((if0 _ _).trans (flt (fun z => q ((lw_lt x y).mp z))).2.1) ho hp z
theorem g_icmp_gt (C : Cx p s m meth c Z own name cod maxL ret) (S : On p l e R s m args below meth c n0 T h k n) {x y : Int32} {o : Int} (hd : decode cod pc = .ok (.if_icmp .gt o, 3)) (ho : 0 ≤ (pc : Int) + o) (hp : ((pc : Int) + o).toNat = pc') (hq : pc + 3 = pf) (ht : y < x → Gl p e below s R n0 Q T (mkF m pc' L r)) (hf : ¬ y < x → Gl p e below s R n0 Q T (mkF m pf L r)) : Gl p e below s R n0 Q T (mkF m pc L (.int y :: .int x :: r)) := by
  obtain ⟨locs, X, -⟩ := S; subst hq
  by_cases q : y < x
  · exact (ht q).st fun _ z => XS.icmpYes X.here C.1 rfl rfl (hb C.2.2.1 hd) rfl ((tlt q).2.2.1) ho hp z
  · exact (hf q).st fun _ z => XS.icmpNo X.here C.1 rfl (hb C.2.2.1 hd) rfl ((flt q).2.2.1) z
theorem g_if_gt (C : Cx p s m meth c Z own name cod maxL ret) (S : On p l e R s m args below meth c n0 T h k n) {x : Int32} {o : Int} (hd : decode cod pc = .ok (.ifCond .gt o, 3)) (ho : 0 ≤ (pc : Int) + o) (hp : ((pc : Int) + o).toNat = pc') (hq : pc + 3 = pf) (ht : (0 : Int32) < x → Gl p e below s R n0 Q T (mkF m pc' L r)) (hf : ¬ (0 : Int32) < x → Gl p e below s R n0 Q T (mkF m pf L r)) : Gl p e below s R n0 Q T (mkF m pc L (.int x :: r)) := by
  obtain ⟨locs, X, -⟩ := S; subst hq
  by_cases q : (0 : Int32) < x
  · exact (ht q).st fun _ z => XS.ifYes X.here C.1 rfl rfl (hb C.2.2.1 hd) rfl ((if0 _ _).trans (tlt q).2.2.1) ho hp z
  · exact (hf q).st fun _ z => XS.ifNo X.here C.1 rfl (hb C.2.2.1 hd) rfl ((if0 _ _).trans (flt q).2.2.1) z
theorem g_lif_gt (C : Cx p s m meth c Z own name cod maxL ret) (S : On p l e R s m args below meth c n0 T h k n) {x y : Int64} {o : Int} (hd : decode cod pc = .ok (.ifCond .gt o, 3)) (ho : 0 ≤ (pc : Int) + o) (hp : ((pc : Int) + o).toNat = pc') (hq : pc + 3 = pf) (ht : y < x → Gl p e below s R n0 Q T (mkF m pc' L r)) (hf : ¬ y < x → Gl p e below s R n0 Q T (mkF m pf L r)) : Gl p e below s R n0 Q T (mkF m pc L (.int (lcmpW x y) :: r)) := by
  obtain ⟨locs, X, -⟩ := S; subst hq
  by_cases q : y < x
  · exact (ht q).st fun _ z => XS.ifYes X.here C.1 rfl rfl (hb C.2.2.1 hd) rfl ((if0 _ _).trans (tlt ((lw_gt x y).mpr q)).2.2.1) ho hp z
  · exact (hf q).st fun _ z => XS.ifNo X.here C.1 rfl (hb C.2.2.1 hd) rfl ((if0 _ _).trans (flt (fun z => q ((lw_gt x y).mp z))).2.2.1) z
theorem g_icmp_le (C : Cx p s m meth c Z own name cod maxL ret) (S : On p l e R s m args below meth c n0 T h k n) {x y : Int32} {o : Int} (hd : decode cod pc = .ok (.if_icmp .le o, 3)) (ho : 0 ≤ (pc : Int) + o) (hp : ((pc : Int) + o).toNat = pc') (hq : pc + 3 = pf) (ht : ¬ y < x → Gl p e below s R n0 Q T (mkF m pc' L r)) (hf : y < x → Gl p e below s R n0 Q T (mkF m pf L r)) : Gl p e below s R n0 Q T (mkF m pc L (.int y :: .int x :: r)) := by
  obtain ⟨locs, X, -⟩ := S; subst hq
  by_cases q : y < x
  · exact (hf q).st fun _ z => XS.icmpNo X.here C.1 rfl (hb C.2.2.1 hd) rfl ((tlt q).2.2.2) z
  · exact (ht q).st fun _ z => XS.icmpYes X.here C.1 rfl rfl (hb C.2.2.1 hd) rfl ((flt q).2.2.2) ho hp z
theorem g_if_le (C : Cx p s m meth c Z own name cod maxL ret) (S : On p l e R s m args below meth c n0 T h k n) {x : Int32} {o : Int} (hd : decode cod pc = .ok (.ifCond .le o, 3)) (ho : 0 ≤ (pc : Int) + o) (hp : ((pc : Int) + o).toNat = pc') (hq : pc + 3 = pf) (ht : ¬ (0 : Int32) < x → Gl p e below s R n0 Q T (mkF m pc' L r)) (hf : (0 : Int32) < x → Gl p e below s R n0 Q T (mkF m pf L r)) : Gl p e below s R n0 Q T (mkF m pc L (.int x :: r)) := by
  obtain ⟨locs, X, -⟩ := S; subst hq
  by_cases q : (0 : Int32) < x
  · exact (hf q).st fun _ z => XS.ifNo X.here C.1 rfl (hb C.2.2.1 hd) rfl ((if0 _ _).trans (tlt q).2.2.2) z
  · exact (ht q).st fun _ z => XS.ifYes X.here C.1 rfl rfl (hb C.2.2.1 hd) rfl ((if0 _ _).trans (flt q).2.2.2) ho hp z
theorem g_lif_le (C : Cx p s m meth c Z own name cod maxL ret) (S : On p l e R s m args below meth c n0 T h k n) {x y : Int64} {o : Int} (hd : decode cod pc = .ok (.ifCond .le o, 3)) (ho : 0 ≤ (pc : Int) + o) (hp : ((pc : Int) + o).toNat = pc') (hq : pc + 3 = pf) (ht : ¬ y < x → Gl p e below s R n0 Q T (mkF m pc' L r)) (hf : y < x → Gl p e below s R n0 Q T (mkF m pf L r)) : Gl p e below s R n0 Q T (mkF m pc L (.int (lcmpW x y) :: r)) := by
  obtain ⟨locs, X, -⟩ := S; subst hq
  by_cases q : y < x
  · exact (hf q).st fun _ z => XS.ifNo X.here C.1 rfl (hb C.2.2.1 hd) rfl ((if0 _ _).trans (tlt ((lw_gt x y).mpr q)).2.2.2) z
  · exact (ht q).st fun _ z => XS.ifYes X.here C.1 rfl rfl (hb C.2.2.1 hd) rfl ((if0 _ _).trans (flt (fun z => q ((lw_gt x y).mp z))).2.2.2) ho hp z
theorem g_icmp_eq (C : Cx p s m meth c Z own name cod maxL ret) (S : On p l e R s m args below meth c n0 T h k n) {x y : Int32} {o : Int} (hd : decode cod pc = .ok (.if_icmp .eq o, 3)) (ho : 0 ≤ (pc : Int) + o) (hp : ((pc : Int) + o).toNat = pc') (hq : pc + 3 = pf) (ht : x = y → Gl p e below s R n0 Q T (mkF m pc' L r)) (hf : ¬ x = y → Gl p e below s R n0 Q T (mkF m pf L r)) : Gl p e below s R n0 Q T (mkF m pc L (.int y :: .int x :: r)) := by
  obtain ⟨locs, X, -⟩ := S; subst hq
  by_cases q : x = y
  · exact (ht q).st fun _ z => XS.icmpYes X.here C.1 rfl rfl (hb C.2.2.1 hd) rfl ((teq q).1) ho hp z
  · exact (hf q).st fun _ z => XS.icmpNo X.here C.1 rfl (hb C.2.2.1 hd) rfl ((feq q).1) z
theorem g_if_eq (C : Cx p s m meth c Z own name cod maxL ret) (S : On p l e R s m args below meth c n0 T h k n) {x : Int32} {o : Int} (hd : decode cod pc = .ok (.ifCond .eq o, 3)) (ho : 0 ≤ (pc : Int) + o) (hp : ((pc : Int) + o).toNat = pc') (hq : pc + 3 = pf) (ht : x = (0 : Int32) → Gl p e below s R n0 Q T (mkF m pc' L r)) (hf : ¬ x = (0 : Int32) → Gl p e below s R n0 Q T (mkF m pf L r)) : Gl p e below s R n0 Q T (mkF m pc L (.int x :: r)) := by
  obtain ⟨locs, X, -⟩ := S; subst hq
  by_cases q : x = (0 : Int32)
  · exact (ht q).st fun _ z => XS.ifYes X.here C.1 rfl rfl (hb C.2.2.1 hd) rfl ((if0 _ _).trans (teq q).1) ho hp z
  · exact (hf q).st fun _ z => XS.ifNo X.here C.1 rfl (hb C.2.2.1 hd) rfl ((if0 _ _).trans (feq q).1) z
theorem g_lif_eq (C : Cx p s m meth c Z own name cod maxL ret) (S : On p l e R s m args below meth c n0 T h k n) {x y : Int64} {o : Int} (hd : decode cod pc = .ok (.ifCond .eq o, 3)) (ho : 0 ≤ (pc : Int) + o) (hp : ((pc : Int) + o).toNat = pc') (hq : pc + 3 = pf) (ht : x = y → Gl p e below s R n0 Q T (mkF m pc' L r)) (hf : ¬ x = y → Gl p e below s R n0 Q T (mkF m pf L r)) : Gl p e below s R n0 Q T (mkF m pc L (.int (lcmpW x y) :: r)) := by
  obtain ⟨locs, X, -⟩ := S; subst hq
  by_cases q : x = y
  · exact (ht q).st fun _ z => XS.ifYes X.here C.1 rfl rfl (hb C.2.2.1 hd) rfl ((if0 _ _).trans (teq ((lw_eq x y).mpr q)).1) ho hp z
  · exact (hf q).st fun _ z => XS.ifNo X.here C.1 rfl (hb C.2.2.1 hd) rfl ((if0 _ _).trans (feq (fun z => q ((lw_eq x y).mp z))).1) z
theorem g_icmp_ne (C : Cx p s m meth c Z own name cod maxL ret) (S : On p l e R s m args below meth c n0 T h k n) {x y : Int32} {o : Int} (hd : decode cod pc = .ok (.if_icmp .ne o, 3)) (ho : 0 ≤ (pc : Int) + o) (hp : ((pc : Int) + o).toNat = pc') (hq : pc + 3 = pf) (ht : ¬ x = y → Gl p e below s R n0 Q T (mkF m pc' L r)) (hf : x = y → Gl p e below s R n0 Q T (mkF m pf L r)) : Gl p e below s R n0 Q T (mkF m pc L (.int y :: .int x :: r)) := by
  obtain ⟨locs, X, -⟩ := S; subst hq
  by_cases q : x = y
  · exact (hf q).st fun _ z => XS.icmpNo X.here C.1 rfl (hb C.2.2.1 hd) rfl ((teq q).2) z
  · exact (ht q).st fun _ z => XS.icmpYes X.here C.1 rfl rfl (hb C.2.2.1 hd) rfl ((feq q).2) ho hp z
theorem g_if_ne (C : Cx p s m meth c Z own name cod maxL ret) (S : On p l e R s m args below meth c n0 T h k n) {x : Int32} {o : Int} (hd : decode cod pc = .ok (.ifCond .ne o, 3)) (ho : 0 ≤ (pc : Int) + o) (hp : ((pc : Int) + o).toNat = pc') (hq : pc + 3 = pf) (ht : ¬ x = (0 : Int32) → Gl p e below s R n0 Q T (mkF m pc' L r)) (hf : x = (0 : Int32) → Gl p e below s R n0 Q T (mkF m pf L r)) : Gl p e below s R n0 Q T (mkF m pc L (.int x :: r)) := by
  obtain ⟨locs, X, -⟩ := S; subst hq
  by_cases q : x = (0 : Int32)
  · exact (hf q).st fun _ z => XS.ifNo X.here C.1 rfl (hb C.2.2.1 hd) rfl ((if0 _ _).trans (teq q).2) z
  · exact (ht q).st fun _ z => XS.ifYes X.here C.1 rfl rfl (hb C.2.2.1 hd) rfl ((if0 _ _).trans (feq q).2) ho hp z
theorem g_lif_ne (C : Cx p s m meth c Z own name cod maxL ret) (S : On p l e R s m args below meth c n0 T h k n) {x y : Int64} {o : Int} (hd : decode cod pc = .ok (.ifCond .ne o, 3)) (ho : 0 ≤ (pc : Int) + o) (hp : ((pc : Int) + o).toNat = pc') (hq : pc + 3 = pf) (ht : ¬ x = y → Gl p e below s R n0 Q T (mkF m pc' L r)) (hf : x = y → Gl p e below s R n0 Q T (mkF m pf L r)) : Gl p e below s R n0 Q T (mkF m pc L (.int (lcmpW x y) :: r)) := by
  obtain ⟨locs, X, -⟩ := S; subst hq
  by_cases q : x = y
  · exact (hf q).st fun _ z => XS.ifNo X.here C.1 rfl (hb C.2.2.1 hd) rfl ((if0 _ _).trans (teq ((lw_eq x y).mpr q)).2) z
  · exact (ht q).st fun _ z => XS.ifYes X.here C.1 rfl rfl (hb C.2.2.1 hd) rfl ((if0 _ _).trans (feq (fun z => q ((lw_eq x y).mp z))).2) ho hp z
theorem g_ifnonnull_ref (C : Cx p s m meth c Z own name cod maxL ret) (S : On p l e R s m args below meth c n0 T h k n) {o : Int} (hd : decode cod pc = .ok (.ifnonnull o, 3)) (ho : 0 ≤ (pc : Int) + o) (hp : ((pc : Int) + o).toNat = pc') (kk : Gl p e below s R n0 Q T (mkF m pc' L r)) : Gl p e below s R n0 Q T (mkF m pc L (.ref a :: r)) := by
  obtain ⟨locs, X, -⟩ := S
  exact kk.st fun _ q => XS.ifnonnullYes X.here C.1 rfl rfl (hb C.2.2.1 hd) rfl ho hp q
theorem g_ifnonnull_null (C : Cx p s m meth c Z own name cod maxL ret) (S : On p l e R s m args below meth c n0 T h k n) {o : Int} (hd : decode cod pc = .ok (.ifnonnull o, 3)) (hq : pc + 3 = pf) (kk : Gl p e below s R n0 Q T (mkF m pf L r)) : Gl p e below s R n0 Q T (mkF m pc L (.null :: r)) := by
  obtain ⟨locs, X, -⟩ := S; subst hq
  exact kk.st fun _ q => XS.ifnonnullNo X.here C.1 rfl (hb C.2.2.1 hd) rfl q
theorem g_ifnull_null (C : Cx p s m meth c Z own name cod maxL ret) (S : On p l e R s m args below meth c n0 T h k n) {o : Int} (hd : decode cod pc = .ok (.ifnull o, 3)) (ho : 0 ≤ (pc : Int) + o) (hp : ((pc : Int) + o).toNat = pc') (kk : Gl p e below s R n0 Q T (mkF m pc' L r)) : Gl p e below s R n0 Q T (mkF m pc L (.null :: r)) := by
  obtain ⟨locs, X, -⟩ := S
  exact kk.st fun _ q => XS.ifnullYes X.here C.1 rfl rfl (hb C.2.2.1 hd) rfl ho hp q
theorem g_ifnull_ref (C : Cx p s m meth c Z own name cod maxL ret) (S : On p l e R s m args below meth c n0 T h k n) {o : Int} (hd : decode cod pc = .ok (.ifnull o, 3)) (hq : pc + 3 = pf) (kk : Gl p e below s R n0 Q T (mkF m pf L r)) : Gl p e below s R n0 Q T (mkF m pc L (.ref a :: r)) := by
  obtain ⟨locs, X, -⟩ := S; subst hq
  exact kk.st fun _ q => XS.ifnullNo X.here C.1 rfl (hb C.2.2.1 hd) rfl q
theorem g_acmp_eq (C : Cx p s m meth c Z own name cod maxL ret) (S : On p l e R s m args below meth c n0 T h k n) {x y : Value} (hx : x.isRef = true) (hy : y.isRef = true) {o : Int} (hd : decode cod pc = .ok (.if_acmp .eq o, 3)) (ho : 0 ≤ (pc : Int) + o) (hp : ((pc : Int) + o).toNat = pc') (hq : pc + 3 = pf) (ht : x = y → Gl p e below s R n0 Q T (mkF m pc' L r)) (hf : ¬ x = y → Gl p e below s R n0 Q T (mkF m pf L r)) : Gl p e below s R n0 Q T (mkF m pc L (y :: x :: r)) := by
  obtain ⟨locs, X, -⟩ := S; subst hq hp
  by_cases q : x = y
  · exact (ht q).st fun _ z => Jvm.RoadKit.acmp X C.1 rfl hx hy (same := true) rfl (hb C.2.2.1 hd) rfl (decide_eq_true q) ho (by simp [acV]) z
  · exact (hf q).st fun _ z => Jvm.RoadKit.acmp X C.1 rfl hx hy (same := false) rfl (hb C.2.2.1 hd) rfl (decide_eq_false q) ho (by simp [acV]) z
theorem g_acmp_ne (C : Cx p s m meth c Z own name cod maxL ret) (S : On p l e R s m args below meth c n0 T h k n) {x y : Value} (hx : x.isRef = true) (hy : y.isRef = true) {o : Int} (hd : decode cod pc = .ok (.if_acmp .ne o, 3)) (ho : 0 ≤ (pc : Int) + o) (hp : ((pc : Int) + o).toNat = pc') (hq : pc + 3 = pf) (ht : ¬ x = y → Gl p e below s R n0 Q T (mkF m pc' L r)) (hf : x = y → Gl p e below s R n0 Q T (mkF m pf L r)) : Gl p e below s R n0 Q T (mkF m pc L (y :: x :: r)) := by
  obtain ⟨locs, X, -⟩ := S; subst hq hp
  by_cases q : x = y
  · exact (hf q).st fun _ z => Jvm.RoadKit.acmp X C.1 rfl hx hy (same := true) rfl (hb C.2.2.1 hd) rfl (decide_eq_true q) ho (by simp [acV]) z
  · exact (ht q).st fun _ z => Jvm.RoadKit.acmp X C.1 rfl hx hy (same := false) rfl (hb C.2.2.1 hd) rfl (decide_eq_false q) ho (by simp [acV]) z
theorem g_ldc (C : Cx p s m meth c Z own name cod maxL ret) (S : On p l e R s m args below meth c n0 T h k n) {v : Int32} {i : Nat} (hd : decode cod pc = .ok (.ldc i, 2)) (w : (Jvm.Cond.constant own i v).before a0 Z = true) (hp : pc + 2 = pc') (kk : Gl p e below s R n0 Q T (mkF m pc' L (.int v :: r))) : Gl p e below s R n0 Q T (mkF m pc L r) := by
  obtain ⟨locs, X, -⟩ := S; subst hp
  exact kk.st fun t q => X.ldcInt (g := mkF m pc L r) C.1 C.2.2.2.2.1 (mvT C.2.1 w) rfl (hb C.2.2.1 hd) t q
theorem g_ldc2 (C : Cx p s m meth c Z own name cod maxL ret) (S : On p l e R s m args below meth c n0 T h k n) {v : Int64} {i : Nat} (hd : decode cod pc = .ok (.ldc2_w i, 3)) (w : (Jvm.Cond.constantLong own i v).before a0 Z = true) (hp : pc + 3 = pc') (kk : Gl p e below s R n0 Q T (mkF m pc' L (.long v :: r))) : Gl p e below s R n0 Q T (mkF m pc L r) := by
  obtain ⟨locs, X, -⟩ := S; subst hp
  exact kk.st fun t q => X.ldc2Long (g := mkF m pc L r) C.1 C.2.2.2.2.1 (mvT C.2.1 w) rfl (hb C.2.2.1 hd) t q
theorem g_leave (C : Cx p s m meth c Z own name cod maxL ret) (S : On p l e R s m args below meth c n0 T h k n) {v : Option Value} (hk : k ≤ R.cells) (hn : n ≤ R.slots) (hv : meth.sig.returnType = none → v = none) (q : Q v h)
    (hst : ∀ fs, (∀ (f : JFrame) (acts : List Action), f.method = m → f.locked = none → f.entered = [] → (doReturn e (T.setTop f) acts v).1 = T.setFrames fs) → ∀ locs, Stand p l e R s m args below meth c T locs k n → Steps p.tables e below (T.setTop (mkF m pc L r)) (T.setFrames fs)) : Gl p e below s R n0 Q T (mkF m pc L r) := by
  obtain ⟨locs, X, N, eh⟩ := S
  obtain ⟨fs, hr, hrun, hended, hW, hsame⟩ := X.leave (v := v) hv C.2.2.2.2.2.2.2
  have q' : Q v (T.setFrames fs).heap := by show Q v T.heap; rw [eh]; exact q
  exact ⟨_, _, hst fs hr locs X, hrun, hended, _, _, rfl, ⟨q', N⟩, ⟨_, rfl⟩, hW, hsame.mono hk hn⟩
theorem g_return (C : Cx p s m meth c Z own name cod maxL none) (S : On p l e R s m args below meth c n0 T h k n) (hd : decode cod pc = .ok (.return_, 1)) (hk : k ≤ R.cells) (hn : n ≤ R.slots) (q : Q none h) : Gl p e below s R n0 Q T (mkF m pc L []) :=
  g_leave C S (v := none) hk hn (fun _ => rfl) q fun fs hr locs X => X.returnOut C.1 C.2.2.2.2.2.2.1 (hb C.2.2.1 hd) hr
theorem g_retv {t : FieldType} {w : Value} {i : Instr} (C : Cx p s m meth c Z own name cod maxL (some t)) (S : On p l e R s m args below meth c n0 T h k n) (hd : decode cod pc = .ok (i, 1)) (hn' : narrow t w = w) (hi : (i = .ireturn ∧ (t = .int ∨ t = .boolean ∨ t = .byte ∨ t = .char ∨ t = .short) ∧ ∃ z, w = .int z) ∨ (i = .lreturn ∧ t = .long ∧ ∃ z, w = .long z) ∨ (i = .dreturn ∧ t = .double ∧ ∃ z, w = .double z) ∨ (i = .freturn ∧ t = .float ∧ ∃ z, w = .float z) ∨ (i = .areturn ∧ t.isReference = true ∧ w.isRef = true)) (hk : k ≤ R.cells) (hn : n ≤ R.slots) (q : Q (some w) h) : Gl p e below s R n0 Q T (mkF m pc L (w :: r)) :=
  g_leave C S (v := some w) hk hn (fun z => by rw [C.2.2.2.2.2.2.1] at z; cases z) q fun fs hr locs X => retOut X C.1 C.2.2.2.2.2.2.1 hn' hi (hb C.2.2.1 hd) hr
theorem g_retI {z : Int32} (C : Cx p s m meth c Z own name cod maxL (some .int)) (S : On p l e R s m args below meth c n0 T h k n) (hd : decode cod pc = .ok (.ireturn, 1)) (hk : k ≤ R.cells) (hn : n ≤ R.slots) (q : Q (some (.int z)) h) : Gl p e below s R n0 Q T (mkF m pc L (.int z :: r)) := g_retv C S hd rfl (Or.inl ⟨rfl, Or.inl rfl, z, rfl⟩) hk hn q
theorem g_retZ {z : Int32} (C : Cx p s m meth c Z own name cod maxL (some .boolean)) (S : On p l e R s m args below meth c n0 T h k n) (hd : decode cod pc = .ok (.ireturn, 1)) (hz : z &&& 1 = z) (hk : k ≤ R.cells) (hn : n ≤ R.slots) (q : Q (some (.int z)) h) : Gl p e below s R n0 Q T (mkF m pc L (.int z :: r)) := g_retv C S hd (congrArg Value.int hz) (Or.inl ⟨rfl, Or.inr (Or.inl rfl), z, rfl⟩) hk hn q
theorem g_retJ {z : Int64} (C : Cx p s m meth c Z own name cod maxL (some .long)) (S : On p l e R s m args below meth c n0 T h k n) (hd : decode cod pc = .ok (.lreturn, 1)) (hk : k ≤ R.cells) (hn : n ≤ R.slots) (q : Q (some (.long z)) h) : Gl p e below s R n0 Q T (mkF m pc L (.long z :: r)) := g_retv C S hd rfl (Or.inr (Or.inl ⟨rfl, rfl, z, rfl⟩)) hk hn q
theorem g_retA {t : FieldType} {w : Value} (C : Cx p s m meth c Z own name cod maxL (some t)) (S : On p l e R s m args below meth c n0 T h k n) (hd : decode cod pc = .ok (.areturn, 1)) (ht : t.isReference = true) (hw : w.isRef = true) (hnw : narrow t w = w) (hk : k ≤ R.cells) (hn : n ≤ R.slots) (q : Q (some w) h) : Gl p e below s R n0 Q T (mkF m pc L (w :: r)) := g_retv C S hd hnw (Or.inr (Or.inr (Or.inr (Or.inr ⟨rfl, ht, hw⟩)))) hk hn q
theorem g_getF (C : Cx p s m meth c Z own name cod maxL ret) (S : On p l e R s m args below meth c n0 T h k n) {R0 O nm d host : String} {i : Nat} {v : Value} (hd : decode cod pc = .ok (.getfield i, 3)) (w : (Jvm.Cond.fieldLink own i R0 nm d).before a0 Z = true ∨ (Jvm.Cond.fieldLinkNest own i R0 nm d host).before a0 Z = true) (via : Via Z R0 O nm d) (F : Fld Z h a O nm d v) (hp : pc + 3 = pc') (kk : ∀ T', On p l e R s m args below meth c n0 T' h k n → Gl p e below s R n0 Q T' (mkF m pc' L (v :: r))) : Gl p e below s R n0 Q T (mkF m pc L (.ref a :: r)) := by
  obtain ⟨locs, X, N, eh⟩ := S; subst hp
  obtain ⟨T', X', eT, st⟩ := getF X C.1 C.2.1 C.2.2.2.2.1 w via eh F (g := mkF m pc L (.ref a :: r)) rfl rfl (hb C.2.2.1 hd)
  exact (kk T' ⟨locs, X', N, eT⟩).st st
theorem g_getS (C : Cx p s m meth c Z own name cod maxL ret) (S : On p l e R s m args below meth c n0 T h k n) {R0 O nm d host : String} {i : Nat} {v : Value} (hd : decode cod pc = .ok (.getstatic i, 3)) (w : (Jvm.Cond.fieldLink own i R0 nm d).before a0 Z = true ∨ (Jvm.Cond.fieldLinkNest own i R0 nm d host).before a0 Z = true) (via : Via Z R0 O nm d) (F : Sta Z h O nm d v) (hp : pc + 3 = pc') (kk : ∀ T', On p l e R s m args below meth c n0 T' h k n → Gl p e below s R n0 Q T' (mkF m pc' L (v :: r))) : Gl p e below s R n0 Q T (mkF m pc L r) := by
  obtain ⟨locs, X, N, eh⟩ := S; subst hp
  obtain ⟨T', X', eT, st⟩ := getS2 X C.1 C.2.1 C.2.2.2.2.1 w via eh F (g := mkF m pc L r) rfl (hb C.2.2.1 hd)
  exact (kk T' ⟨locs, X', N, eT⟩).st st
theorem g_putF (C : Cx p s m meth c Z own name cod maxL ret) (S : On p l e R s m args below meth c n0 T h k n) {R0 O nm d host K : String} {i kk0 : Nat} {ty : FieldType} {v old : Value} (hd : decode cod pc = .ok (.putfield i, 3)) (w : (Jvm.Cond.fieldLink own i R0 nm d).before a0 Z = true ∨ (Jvm.Cond.fieldLinkNest own i R0 nm d host).before a0 Z = true) (via : Via Z R0 O nm d) (F : Fld Z h a O nm d old) (E : Exa Z h a K) (Ly : (Jvm.Cond.lays K O nm d).before a0 Z = true ∨ ((Jvm.Cond.laysFinal K O nm d).before a0 Z = true ∧ own = O ∧ name = "<init>")) (wi : (Jvm.Cond.instantiable K kk0).before a0 Z = true) (hty : parseFieldDescriptor d = some ty) (hnr : narrow ty v = v) (hft : fits ty v = true) (ga : n0 ≤ a) (hp : pc + 3 = pc') (kk : ∀ T' h', On p l e R s m args below meth c n0 T' h' k n → Wr h h' a (Jvm.RoadKit.slotOf Z O nm d) v → Gl p e below s R n0 Q T' (mkF m pc' L r)) : Gl p e below s R n0 Q T (mkF m pc L (v :: .ref a :: r)) := by
  obtain ⟨locs, X, N, eh⟩ := S; subst hp
  obtain ⟨T', h', X', eT, W, st⟩ := putF X C.1 C.2.1 C.2.2.2.2.1 w via eh F E (Ly.imp id fun q => ⟨q.1, q.2.1, C.2.2.2.2.2.1.trans q.2.2⟩) wi hty hnr hft (g := mkF m pc L (v :: .ref a :: r)) rfl rfl (hb C.2.2.1 hd)
  exact (kk T' h' ⟨_, X', Fr.snoc X' N ga, eT⟩ W).st st
theorem g_new (C : Cx p s m meth c Z own name cod maxL ret) (S : On p l e R s m args below meth c n0 T h k n) {K : String} {i sz : Nat} (hd : decode cod pc = .ok (.new i, 3)) (w : (Jvm.Cond.classLink own i K).before a0 Z = true) (wi : (Jvm.Cond.instantiable K sz).before a0 Z = true) (wz : (Jvm.Cond.initialized K).before a0 Z = true) (hc : k + 1 ≤ R.cells) (hl : n + sz ≤ R.slots) (hp : pc + 3 = pc') (kk : ∀ T' h' a, On p l e R s m args below meth c n0 T' h' (k + 1) (n + sz) → a = h.size → Ext h h' → Exa Z h' a K → (∀ {O nm d : String} {ty : FieldType}, Laid Z a0 K O nm d → parseFieldDescriptor d = some ty → Fld Z h' a O nm d (defaultValue ty)) → Gl p e below s R n0 Q T' (mkF m pc' L (.ref a :: r))) : Gl p e below s R n0 Q T (mkF m pc L r) := by
  obtain ⟨locs, X, N, eh⟩ := S; subst hp
  obtain ⟨T', h', X', eT, E, A, D, -, st⟩ := newO X C.1 C.2.1 C.2.2.2.2.1 w wi wz eh (g := mkF m pc L r) rfl (hb C.2.2.1 hd) hc hl
  exact (kk T' h' h.size ⟨_, X', N, eT⟩ rfl E A D).st st
theorem g_initO (C : Cx p s m meth c Z own name cod maxL ret) (S : On p l e R s m args below meth c n0 T h k n) {i W : Nat} (hd : decode cod pc = .ok (.invokespecial i, 3)) (w1 : (Jvm.Cond.methodLink own i Lib.objectInit).before a0 Z = true) (w2 : (Jvm.Cond.instanceMethod Lib.objectInit).before a0 Z = true) (w3 : (Jvm.Cond.code Lib.objectInit ⟨#[0xb1]⟩ 1 none).before a0 Z = true) (hsz : L.size = maxL) (hf : 1 ≤ R.frames) (hW : (r.map fun v => v.category).sum ≤ W) (hl : W + 12 ≤ R.locals) (hp : pc + 3 = pc') (kk : ∀ T', On p l e R s m args below meth c n0 T' h k n → Gl p e below s R n0 Q T' (mkF m pc' L r)) : Gl p e below s R n0 Q T (mkF m pc L (.ref a :: r)) := by
  obtain ⟨locs, X, N, eh⟩ := S; subst hp
  obtain ⟨T', X', eT, st⟩ := initO X C.1 C.2.1 C.2.2.2.2.1 w1 w2 w3 eh (g := mkF m pc L (.ref a :: r)) rfl (hsz.trans C.2.2.2.1.symm) rfl (hb C.2.2.1 hd) hf (W := W) (by simpa using hW) hl
  exact (kk T' ⟨locs, X', N, eT⟩).st st
theorem notFace_of_inst {y : MethodName} {sz : Nat} (hZ : Z.Warmed39 s.vm) (wi : (Jvm.Cond.instantiable y.cls sz).before a0 Z = true) : NotFace s y := fun r0 h0 => by
  obtain ⟨c0, k0, i1, i2, -, i4, -⟩ := Cond.instantiable_spec (mvT (s := s) (args := #[]) hZ wi)
  have q := findClass_of_methodNamed h0
  rw [i1] at q; cases q
  exact ⟨k0, i2, (Bool.or_eq_false_iff.mp i4).1⟩
theorem g_callS (C : Cx p s m meth c Z own name cod maxL ret) (S : On p l e R s m args below meth c n0 T h k n) {y : MethodName} {bytes : ByteArray} {mx i W : Nat} {rt : Option FieldType} {rm : Room} {Q' : Option Value → Heap → Prop} {argsL stk : List Value} (hd : decode cod pc = .ok (.invokestatic i, 3)) (w1 : (Jvm.Cond.methodLink own i y).before a0 Z = true) (w2 : (Jvm.Cond.static y).before a0 Z = true) (w3 : (Jvm.Cond.initialized y.cls).before a0 Z = true) (w4 : (Jvm.Cond.code y bytes mx rt).before a0 Z = true) (hy : y.cls ≠ "java/lang/invoke/MethodHandle" ∧ y.cls ≠ "java/lang/invoke/VarHandle") (K : Con l Z y bytes mx rt rm argsL.toArray h n0 Q') (hst : stk = argsL.reverse ++ r) (hlen : ∀ sig, parseMethodDescriptor y.desc = some sig → argsL.length = sig.parameters.length) (hsz : L.size = maxL) (hW : (r.map fun v => v.category).sum ≤ W) (hf : rm.frames + 1 ≤ R.frames) (hlo : W + (mx + 11) + rm.locals ≤ R.locals) (hce : k + rm.cells ≤ R.cells) (hsl : n + rm.slots ≤ R.slots) (hp : pc + 3 = pc') (kk : ∀ T' h' v, Q' v h' → On p l e R s m args below meth c n0 T' h' (k + rm.cells) (n + rm.slots) → Gl p e below s R n0 Q T' (mkF m pc' L (v.toList ++ r))) : Gl p e below s R n0 Q T (mkF m pc L stk) := by
  obtain ⟨locs, X, N, eh⟩ := S; subst hp
  obtain ⟨v, vm1, ⟨T', L1, k1, n1⟩, -, X', ⟨Lc, hQ, l', y', z'⟩, st⟩ := Jvm.LawKit.callS X C.1 (y := y) C.2.2.2.2.1 (mvT C.2.1 w1) (mvT C.2.1 w2) (mvT C.2.1 w3) (mvT C.2.1 w4) hy (backOf (W := W) (Q := fun v h L => Q' v h ∧ Fr n0 L) (K []) C.2.1 w4 w3 hf hlo) (g := mkF m pc L stk) rfl (hsz.trans C.2.2.2.1.symm) (argsL := argsL) (rest := r) hlen hst (by simpa using hW) (hb C.2.2.1 hd) (fun _ _ => ⟨rfl, eh, hce, hsl⟩)
  dsimp only [Pt.U, Pt.locs, Pt.cells, Pt.slots] at X' st hQ l' y' z'
  subst l' y' z'
  exact (kk T' T'.heap v hQ.1 ⟨_, X', N.app hQ.2, rfl⟩).st st
theorem g_callI (C : Cx p s m meth c Z own name cod maxL ret) (S : On p l e R s m args below meth c n0 T h k n) {y : MethodName} {bytes : ByteArray} {mx i W : Nat} {rm : Room} {Q' : Option Value → Heap → Prop} {argsL stk : List Value} (hd : decode cod pc = .ok (.invokespecial i, 3)) (hy1 : y.name = "<init>") (w1 : (Jvm.Cond.methodLink own i y).before a0 Z = true) (w2 : (Jvm.Cond.instanceMethod y).before a0 Z = true) (w3 : (Jvm.Cond.initialized y.cls).before a0 Z = true) (w4 : (Jvm.Cond.code y bytes mx none).before a0 Z = true) (hy : y.cls ≠ "java/lang/invoke/MethodHandle" ∧ y.cls ≠ "java/lang/invoke/VarHandle") (K : Con l Z y bytes mx none rm (.ref a :: argsL).toArray h n0 Q') (hst : stk = argsL.reverse ++ .ref a :: r) (hlen : ∀ sig, parseMethodDescriptor y.desc = some sig → argsL.length = sig.parameters.length) (hsz : L.size = maxL) (hW : (r.map fun v => v.category).sum ≤ W) (hf : rm.frames + 1 ≤ R.frames) (hlo : W + (mx + 11) + rm.locals ≤ R.locals) (hce : k + rm.cells ≤ R.cells) (hsl : n + rm.slots ≤ R.slots) (hp : pc + 3 = pc') (kk : ∀ T' h' v, Q' v h' → On p l e R s m args below meth c n0 T' h' (k + rm.cells) (n + rm.slots) → Gl p e below s R n0 Q T' (mkF m pc' L (v.toList ++ r))) : Gl p e below s R n0 Q T (mkF m pc L stk) := by
  obtain ⟨locs, X, N, eh⟩ := S; subst hp
  obtain ⟨v, vm1, ⟨T', L1, k1, n1⟩, -, X', ⟨Lc, hQ, l', y', z'⟩, st⟩ := X.specialBack C.1 (y := y) hy1 C.2.2.2.2.1 (mvT C.2.1 w1) (mvT C.2.1 w2) (mvT C.2.1 w4) hy (backOf (W := W) (Q := fun v h L => Q' v h ∧ Fr n0 L) (K []) C.2.1 w4 w3 hf hlo) (g := mkF m pc L stk) rfl (hsz.trans C.2.2.2.1.symm) (Steps.refl _) (a := a) (argsL := argsL) (rest := r) hlen hst (by simpa using hW) (hb C.2.2.1 hd) (fun _ _ => ⟨rfl, eh, hce, hsl⟩)
  dsimp only [Pt.U, Pt.locs, Pt.cells, Pt.slots] at X' st hQ l' y' z'
  subst l' y' z'
  exact (kk T' T'.heap v hQ.1 ⟨_, X', N.app hQ.2, rfl⟩).st fun _ q => st.trans q
theorem g_callV (C : Cx p s m meth c Z own name cod maxL ret) (S : On p l e R s m args below meth c n0 T h k n) {K : String} {y z : MethodName} {bytes : ByteArray} {mx i W : Nat} {rt : Option FieldType} {rm : Room} {Q' : Option Value → Heap → Prop} {argsL stk : List Value} (hd : decode cod pc = .ok (.invokevirtual i, 3)) (w1 : (Jvm.Cond.methodLink own i y).before a0 Z = true) (w2 : (Jvm.Cond.declares y).before a0 Z = true) (hnf : NotFace s y) (w5 : (Jvm.Cond.selects K y z).before a0 Z = true) (w6 : (Jvm.Cond.instanceMethod z).before a0 Z = true) (w3 : (Jvm.Cond.initialized z.cls).before a0 Z = true) (w4 : (Jvm.Cond.code z bytes mx rt).before a0 Z = true) (hy : y.cls ≠ "java/lang/invoke/MethodHandle" ∧ y.cls ≠ "java/lang/invoke/VarHandle") (hyK : y.cls = K) (E : Exa Z h a K) (Kc : Con l Z z bytes mx rt rm (.ref a :: argsL).toArray h n0 Q') (hst : stk = argsL.reverse ++ .ref a :: r) (hlen : ∀ sig, parseMethodDescriptor y.desc = some sig → argsL.length = sig.parameters.length) (hsz : L.size = maxL) (hW : (r.map fun v => v.category).sum ≤ W) (hf : rm.frames + 1 ≤ R.frames) (hlo : W + (mx + 11) + rm.locals ≤ R.locals) (hce : k + rm.cells ≤ R.cells) (hsl : n + rm.slots ≤ R.slots) (hp : pc + 3 = pc') (kk : ∀ T' h' v, Q' v h' → On p l e R s m args below meth c n0 T' h' (k + rm.cells) (n + rm.slots) → Gl p e below s R n0 Q T' (mkF m pc' L (v.toList ++ r))) : Gl p e below s R n0 Q T (mkF m pc L stk) := by
  obtain ⟨locs, X, N, eh⟩ := S; subst hp hyK
  obtain ⟨cq, kq, qa, qb, qc⟩ := isOf C.2.1 eh E
  obtain ⟨v, vm1, ⟨T', L1, k1, n1⟩, -, X', ⟨Lc, hQ, l', y', z'⟩, st⟩ := X.virtualBack C.1 (y := y) (z := z) C.2.2.2.2.1 (mvT C.2.1 w1) (mvT C.2.1 w2) hnf (mvT C.2.1 w5) (mvT C.2.1 w6) hy (backOf (W := W) (Q := fun v h L => Q' v h ∧ Fr n0 L) (Kc []) C.2.1 w4 w3 hf hlo) qa qc (g := mkF m pc L stk) rfl (hsz.trans C.2.2.2.1.symm) (Steps.refl _) (argsL := argsL) (rest := r) hlen hst (by simpa using hW) (hb C.2.2.1 hd) (fun _ _ => ⟨rfl, eh, hce, hsl⟩)
  dsimp only [Pt.U, Pt.locs, Pt.cells, Pt.slots] at X' st hQ l' y' z'
  subst l' y' z'
  exact (kk T' T'.heap v hQ.1 ⟨_, X', N.app hQ.2, rfl⟩).st fun _ q => st.trans q
theorem g_callP (C : Cx p s m meth c Z own name cod maxL ret) (S : On p l e R s m args below meth c n0 T h k n) {y : MethodName} {bytes : ByteArray} {mx i W sz : Nat} {rt : Option FieldType} {rm : Room} {Q' : Option Value → Heap → Prop} {argsL stk : List Value} (hd : decode cod pc = .ok (.invokevirtual i, 3)) (w1 : (Jvm.Cond.methodLink own i y).before a0 Z = true) (w2 : (Jvm.Cond.instanceMethod y).before a0 Z = true) (wp : (Jvm.Cond.privateMethod y).before a0 Z = true) (wi : (Jvm.Cond.instantiable y.cls sz).before a0 Z = true) (w3 : (Jvm.Cond.initialized y.cls).before a0 Z = true) (w4 : (Jvm.Cond.code y bytes mx rt).before a0 Z = true) (hy : y.cls ≠ "java/lang/invoke/MethodHandle" ∧ y.cls ≠ "java/lang/invoke/VarHandle") (E : Exa Z h a y.cls) (Kc : Con l Z y bytes mx rt rm (.ref a :: argsL).toArray h n0 Q') (hst : stk = argsL.reverse ++ .ref a :: r) (hlen : ∀ sig, parseMethodDescriptor y.desc = some sig → argsL.length = sig.parameters.length) (hsz : L.size = maxL) (hW : (r.map fun v => v.category).sum ≤ W) (hf : rm.frames + 1 ≤ R.frames) (hlo : W + (mx + 11) + rm.locals ≤ R.locals) (hce : k + rm.cells ≤ R.cells) (hsl : n + rm.slots ≤ R.slots) (hp : pc + 3 = pc') (kk : ∀ T' h' v, Q' v h' → On p l e R s m args below meth c n0 T' h' (k + rm.cells) (n + rm.slots) → Gl p e below s R n0 Q T' (mkF m pc' L (v.toList ++ r))) : Gl p e below s R n0 Q T (mkF m pc L stk) := by
  obtain ⟨locs, X, N, eh⟩ := S; subst hp
  obtain ⟨cq, q1, q2⟩ := E.cell
  obtain ⟨c0, k0, i1, i2, i3, i4, -⟩ := Cond.instantiable_spec (mvT (s := s) (args := args) C.2.1 wi)
  have hpr := Cond.privateMethod_at (mvP (s := s) (args := args) C.2.1 wp)
  have hs := selects_self_of_private (args := args) i1 i2 (Bool.or_eq_false_iff.mp i4).1 hpr (mvT C.2.1 w2) hy
  obtain ⟨v, vm1, ⟨T', L1, k1, n1⟩, -, X', ⟨Lc, hQ, l', y', z'⟩, st⟩ := X.privateBack C.1 (y := y) C.2.2.2.2.1 (mvT C.2.1 w1) (mvT C.2.1 w2) hs hpr (mvT C.2.1 w4) hy (backOf (W := W) (Q := fun v h L => Q' v h ∧ Fr n0 L) (Kc []) C.2.1 w4 w3 hf hlo) (g := mkF m pc L stk) rfl (hsz.trans C.2.2.2.1.symm) (Steps.refl _) (a := a) (by rw [eh]; exact q1) q2 (argsL := argsL) (rest := r) hlen hst (by simpa using hW) (hb C.2.2.1 hd) (fun _ _ => ⟨rfl, eh, hce, hsl⟩)
  dsimp only [Pt.U, Pt.locs, Pt.cells, Pt.slots] at X' st hQ l' y' z'
  subst l' y' z'
  exact (kk T' T'.heap v hQ.1 ⟨_, X', N.app hQ.2, rfl⟩).st fun _ q => st.trans q
/-- an array: its length and what each place holds -/
def Ary (Z : State) (h : Heap) (a : Addr) (ty : FieldType) (n : Nat) (f : Nat → Value) : Prop := ∃ c : Cell, Arr Z h a c ty ∧ c.slots.size = n ∧ ∀ i, i < n → c.slots[i]? = some (f i)
variable {ty : FieldType} {N i : Nat} {f : Nat → Value} {v : Value} {sl : Nat} {j x : Int32} {ws : List Addr}
theorem Ary.lt (A : Ary Z h a ty N f) : a < h.size := by obtain ⟨c, A, -⟩ := A; exact A.lt
theorem Ary.ext (A : Ary Z h a ty N f) (E : Ext h h') : Ary Z h' a ty N f := by obtain ⟨c, A, q⟩ := A; exact ⟨c, A.ext E, q⟩
theorem Ary.other (A : Ary Z h a ty N f) (W : Wr h h' b sl v) (q : a ≠ b) : Ary Z h' a ty N f := by obtain ⟨c, A, z⟩ := A; exact ⟨c, A.other W q, z⟩
theorem Ary.keep (A : Ary Z h a ty N f) (K : Keep h h' ws) (q : a ∉ ws) : Ary Z h' a ty N f := by obtain ⟨c, A, z⟩ := A; exact ⟨c, ⟨K.2.1 a c A.1 q, A.2⟩, z⟩
theorem Ary.cg {f' : Nat → Value} (A : Ary Z h a ty N f) (q : ∀ i, i < N → f i = f' i) : Ary Z h a ty N f' := by obtain ⟨c, A, s, z⟩ := A; exact ⟨c, A, s, fun i hi => by rw [← q i hi]; exact z i hi⟩
theorem Ary.same (A : Ary Z h a ty N f) (W : Wr h h' a i v) : Ary Z h' a ty N (fun q => if q = i then v else f q) := by
  obtain ⟨c, A, s, z⟩ := A
  refine ⟨_, A.same W, by rw [sz_set]; exact s, fun q hq => ?_⟩
  by_cases u : q = i
  · subst u; simp [Cell.setSlot, s, hq]
  · simp only [u, if_false]; simp only [Cell.setSlot]; rw [Array.getElem?_setIfInBounds_ne (fun w => u w.symm)]; exact z q hq
theorem idx_nat {c : Cell} (hj : j.toInt = (i : Int)) (hi : i < c.slots.size) : ¬ (j < 0 ∨ c.slots.size ≤ j.toNatClampNeg) ∧ j.toNatClampNeg = i := by
  have e : j.toNatClampNeg = i := by simp only [Int32.toNatClampNeg, hj]; omega
  refine ⟨?_, e⟩
  rw [e, Int32.lt_iff_toInt_lt, hj]
  have : (0 : Int32).toInt = 0 := rfl
  omega
theorem g_iaload (C : Cx p s m meth c Z own name cod maxL ret) (S : On p l e R s m args below meth c n0 T h k n) (hd : decode cod pc = .ok (.iaload, 1)) (A : Ary Z h a .int N f) (hj : j.toInt = (i : Int)) (hi : i < N) (hv : f i = v) (hp : pc + 1 = pc') (kk : Gl p e below s R n0 Q T (mkF m pc' L (v :: r))) : Gl p e below s R n0 Q T (mkF m pc L (.int j :: .ref a :: r)) := by
  obtain ⟨locs, X, N, eh⟩ := S; subst hp
  obtain ⟨cl, A, sz, z⟩ := A
  obtain ⟨q1, q2⟩ := idx_nat (c := cl) hj (by rw [sz]; exact hi)
  exact kk.st fun t q => X.iaload (g := mkF m pc L (.int j :: .ref a :: r)) C.1 (by rw [eh]; exact A.1) (State.isArrayOf_alike C.2.1.alike A.2.1) A.2.2 q1 (by rw [q2, ← hv]; exact z i hi) rfl rfl (hb C.2.2.1 hd) t q
theorem g_laload (C : Cx p s m meth c Z own name cod maxL ret) (S : On p l e R s m args below meth c n0 T h k n) (hd : decode cod pc = .ok (.laload, 1)) (A : Ary Z h a .long N f) (hj : j.toInt = (i : Int)) (hi : i < N) (hv : f i = v) (hp : pc + 1 = pc') (kk : Gl p e below s R n0 Q T (mkF m pc' L (v :: r))) : Gl p e below s R n0 Q T (mkF m pc L (.int j :: .ref a :: r)) := by
  obtain ⟨locs, X, N, eh⟩ := S; subst hp
  obtain ⟨cl, A, sz, z⟩ := A
  obtain ⟨q1, q2⟩ := idx_nat (c := cl) hj (by rw [sz]; exact hi)
  exact kk.st fun t q => X.laload (g := mkF m pc L (.int j :: .ref a :: r)) C.1 (by rw [eh]; exact A.1) (State.isArrayOf_alike C.2.1.alike A.2.1) A.2.2 q1 (by rw [q2, ← hv]; exact z i hi) rfl rfl (hb C.2.2.1 hd) t q
theorem g_caload (C : Cx p s m meth c Z own name cod maxL ret) (S : On p l e R s m args below meth c n0 T h k n) (hd : decode cod pc = .ok (.caload, 1)) (A : Ary Z h a .char N f) (hj : j.toInt = (i : Int)) (hi : i < N) (hv : f i = v) (hp : pc + 1 = pc') (kk : Gl p e below s R n0 Q T (mkF m pc' L (v :: r))) : Gl p e below s R n0 Q T (mkF m pc L (.int j :: .ref a :: r)) := by
  obtain ⟨locs, X, N, eh⟩ := S; subst hp
  obtain ⟨cl, A, sz, z⟩ := A
  obtain ⟨q1, q2⟩ := idx_nat (c := cl) hj (by rw [sz]; exact hi)
  exact kk.st fun t q => X.caload (g := mkF m pc L (.int j :: .ref a :: r)) C.1 (by rw [eh]; exact A.1) (State.isArrayOf_alike C.2.1.alike A.2.1) A.2.2 q1 (by rw [q2, ← hv]; exact z i hi) rfl rfl (hb C.2.2.1 hd) t q
theorem g_saload (C : Cx p s m meth c Z own name cod maxL ret) (S : On p l e R s m args below meth c n0 T h k n) (hd : decode cod pc = .ok (.saload, 1)) (A : Ary Z h a .short N f) (hj : j.toInt = (i : Int)) (hi : i < N) (hv : f i = v) (hp : pc + 1 = pc') (kk : Gl p e below s R n0 Q T (mkF m pc' L (v :: r))) : Gl p e below s R n0 Q T (mkF m pc L (.int j :: .ref a :: r)) := by
  obtain ⟨locs, X, N, eh⟩ := S; subst hp
  obtain ⟨cl, A, sz, z⟩ := A
  obtain ⟨q1, q2⟩ := idx_nat (c := cl) hj (by rw [sz]; exact hi)
  exact kk.st fun t q => X.saload (g := mkF m pc L (.int j :: .ref a :: r)) C.1 (by rw [eh]; exact A.1) (State.isArrayOf_alike C.2.1.alike A.2.1) A.2.2 q1 (by rw [q2, ← hv]; exact z i hi) rfl rfl (hb C.2.2.1 hd) t q
theorem g_baloadB (C : Cx p s m meth c Z own name cod maxL ret) (S : On p l e R s m args below meth c n0 T h k n) (hd : decode cod pc = .ok (.baload, 1)) (A : Ary Z h a .byte N f) (hj : j.toInt = (i : Int)) (hi : i < N) (hv : f i = v) (hp : pc + 1 = pc') (kk : Gl p e below s R n0 Q T (mkF m pc' L (v :: r))) : Gl p e below s R n0 Q T (mkF m pc L (.int j :: .ref a :: r)) := by
  obtain ⟨locs, X, N, eh⟩ := S; subst hp
  obtain ⟨cl, A, sz, z⟩ := A
  obtain ⟨q1, q2⟩ := idx_nat (c := cl) hj (by rw [sz]; exact hi)
  exact kk.st fun t q => X.baloadBytes (g := mkF m pc L (.int j :: .ref a :: r)) C.1 (by rw [eh]; exact A.1) (State.isArrayOf_alike C.2.1.alike A.2.1) A.2.2 q1 (by rw [q2, ← hv]; exact z i hi) rfl rfl (hb C.2.2.1 hd) t q
theorem g_baloadZ (C : Cx p s m meth c Z own name cod maxL ret) (S : On p l e R s m args below meth c n0 T h k n) (hd : decode cod pc = .ok (.baload, 1)) (A : Ary Z h a .boolean N f) (hj : j.toInt = (i : Int)) (hi : i < N) (hv : f i = v) (hp : pc + 1 = pc') (kk : Gl p e below s R n0 Q T (mkF m pc' L (v :: r))) : Gl p e below s R n0 Q T (mkF m pc L (.int j :: .ref a :: r)) := by
  obtain ⟨locs, X, N, eh⟩ := S; subst hp
  obtain ⟨cl, A, sz, z⟩ := A
  obtain ⟨q1, q2⟩ := idx_nat (c := cl) hj (by rw [sz]; exact hi)
  exact kk.st fun t q => X.baloadBooleans (g := mkF m pc L (.int j :: .ref a :: r)) C.1 (by rw [eh]; exact A.1) (State.isArrayOf_alike C.2.1.alike A.2.1) A.2.2 q1 (by rw [q2, ← hv]; exact z i hi) rfl rfl (hb C.2.2.1 hd) t q
theorem g_daload (C : Cx p s m meth c Z own name cod maxL ret) (S : On p l e R s m args below meth c n0 T h k n) (hd : decode cod pc = .ok (.daload, 1)) (A : Ary Z h a .double N f) (hj : j.toInt = (i : Int)) (hi : i < N) (hv : f i = v) (hp : pc + 1 = pc') (kk : Gl p e below s R n0 Q T (mkF m pc' L (v :: r))) : Gl p e below s R n0 Q T (mkF m pc L (.int j :: .ref a :: r)) := by
  obtain ⟨locs, X, N, eh⟩ := S; subst hp
  obtain ⟨cl, A, sz, z⟩ := A
  obtain ⟨q1, q2⟩ := idx_nat (c := cl) hj (by rw [sz]; exact hi)
  exact kk.st fun t q => X.daload (g := mkF m pc L (.int j :: .ref a :: r)) C.1 (by rw [eh]; exact A.1) (State.isArrayOf_alike C.2.1.alike A.2.1) A.2.2 q1 (by rw [q2, ← hv]; exact z i hi) rfl rfl (hb C.2.2.1 hd) t q
theorem g_aaload (C : Cx p s m meth c Z own name cod maxL ret) (S : On p l e R s m args below meth c n0 T h k n) (hd : decode cod pc = .ok (.aaload, 1)) (A : Ary Z h a ty N f) (hty : ty.isReference = true) (hj : j.toInt = (i : Int)) (hi : i < N) (hv : f i = v) (hp : pc + 1 = pc') (kk : Gl p e below s R n0 Q T (mkF m pc' L (v :: r))) : Gl p e below s R n0 Q T (mkF m pc L (.int j :: .ref a :: r)) := by
  obtain ⟨locs, X, N, eh⟩ := S; subst hp
  obtain ⟨cl, A, sz, z⟩ := A
  obtain ⟨q1, q2⟩ := idx_nat (c := cl) hj (by rw [sz]; exact hi)
  exact kk.st fun t q => X.aaload (g := mkF m pc L (.int j :: .ref a :: r)) C.1 (by rw [eh]; exact A.1) (State.isArrayOf_alike C.2.1.alike A.2.1) hty A.2.2 q1 (by rw [q2, ← hv]; exact z i hi) rfl rfl (hb C.2.2.1 hd) t q
theorem g_arraylength (C : Cx p s m meth c Z own name cod maxL ret) (S : On p l e R s m args below meth c n0 T h k n) (hd : decode cod pc = .ok (.arraylength, 1)) (A : Ary Z h a ty N f) (hx : N.toInt32 = x) (hp : pc + 1 = pc') (kk : Gl p e below s R n0 Q T (mkF m pc' L (.int x :: r))) : Gl p e below s R n0 Q T (mkF m pc L (.ref a :: r)) := by
  obtain ⟨locs, X, _, eh⟩ := S; subst hp
  obtain ⟨cl, A, sz, z⟩ := A
  subst hx
  rw [← sz] at kk
  exact kk.st fun t q => X.arraylength (g := mkF m pc L (.ref a :: r)) C.1 (by rw [eh]; exact A.1) (State.isArrayOf_alike C.2.1.alike A.2.1) rfl rfl (hb C.2.2.1 hd) t q
theorem g_iastore (C : Cx p s m meth c Z own name cod maxL ret) (S : On p l e R s m args below meth c n0 T h k n) {y : Int32} (hd : decode cod pc = .ok (.iastore, 1)) (A : Ary Z h a .int N f) (hj : j.toInt = (i : Int)) (hi : i < N) (ga : n0 ≤ a) (hp : pc + 1 = pc') (kk : ∀ T' h', On p l e R s m args below meth c n0 T' h' k n → Wr h h' a i (.int y) → Ary Z h' a .int N (fun q => if q = i then .int y else f q) → Gl p e below s R n0 Q T' (mkF m pc' L r)) : Gl p e below s R n0 Q T (mkF m pc L (.int y :: .int j :: .ref a :: r)) := by
  obtain ⟨locs, X, N, eh⟩ := S; subst hp
  have A0 := A
  obtain ⟨cl, A, sz, z⟩ := A
  obtain ⟨q1, q2⟩ := idx_nat (c := cl) hj (by rw [sz]; exact hi)
  obtain ⟨T', h', X', eT, W, st⟩ := stI X C.1 C.2.1 eh A q1 (g := mkF m pc L (.int y :: .int j :: .ref a :: r)) rfl rfl (hb C.2.2.1 hd)
  have N' := Fr.snoc X' N ga
  rw [q2] at W
  exact (kk T' h' ⟨_, X', N', eT⟩ W (A0.same W)).st st
theorem g_lastore (C : Cx p s m meth c Z own name cod maxL ret) (S : On p l e R s m args below meth c n0 T h k n) {y : Int64} (hd : decode cod pc = .ok (.lastore, 1)) (A : Ary Z h a .long N f) (hj : j.toInt = (i : Int)) (hi : i < N) (ga : n0 ≤ a) (hp : pc + 1 = pc') (kk : ∀ T' h', On p l e R s m args below meth c n0 T' h' k n → Wr h h' a i (.long y) → Ary Z h' a .long N (fun q => if q = i then .long y else f q) → Gl p e below s R n0 Q T' (mkF m pc' L r)) : Gl p e below s R n0 Q T (mkF m pc L (.long y :: .int j :: .ref a :: r)) := by
  obtain ⟨locs, X, N, eh⟩ := S; subst hp
  have A0 := A
  obtain ⟨cl, A, sz, z⟩ := A
  obtain ⟨q1, q2⟩ := idx_nat (c := cl) hj (by rw [sz]; exact hi)
  obtain ⟨T', h', X', eT, W, st⟩ := stJ X C.1 C.2.1 eh A q1 (g := mkF m pc L (.long y :: .int j :: .ref a :: r)) rfl rfl (hb C.2.2.1 hd)
  have N' := Fr.snoc X' N ga
  rw [q2] at W
  exact (kk T' h' ⟨_, X', N', eT⟩ W (A0.same W)).st st
theorem g_castore (C : Cx p s m meth c Z own name cod maxL ret) (S : On p l e R s m args below meth c n0 T h k n) {y : Int32} (hd : decode cod pc = .ok (.castore, 1)) (A : Ary Z h a .char N f) (hj : j.toInt = (i : Int)) (hi : i < N) (ga : n0 ≤ a) (hp : pc + 1 = pc') (kk : ∀ T' h', On p l e R s m args below meth c n0 T' h' k n → Wr h h' a i (.int (nar .char y)) → Ary Z h' a .char N (fun q => if q = i then .int (nar .char y) else f q) → Gl p e below s R n0 Q T' (mkF m pc' L r)) : Gl p e below s R n0 Q T (mkF m pc L (.int y :: .int j :: .ref a :: r)) := by
  obtain ⟨locs, X, N, eh⟩ := S; subst hp
  have A0 := A
  obtain ⟨cl, A, sz, z⟩ := A
  obtain ⟨q1, q2⟩ := idx_nat (c := cl) hj (by rw [sz]; exact hi)
  obtain ⟨T', h', X', eT, W, st⟩ := stC X C.1 C.2.1 eh A q1 (g := mkF m pc L (.int y :: .int j :: .ref a :: r)) rfl rfl (hb C.2.2.1 hd)
  have N' := Fr.snoc X' N ga
  rw [q2] at W
  exact (kk T' h' ⟨_, X', N', eT⟩ W (A0.same W)).st st
theorem g_bastoreB (C : Cx p s m meth c Z own name cod maxL ret) (S : On p l e R s m args below meth c n0 T h k n) {y : Int32} (hd : decode cod pc = .ok (.bastore, 1)) (A : Ary Z h a .byte N f) (hj : j.toInt = (i : Int)) (hi : i < N) (ga : n0 ≤ a) (hp : pc + 1 = pc') (kk : ∀ T' h', On p l e R s m args below meth c n0 T' h' k n → Wr h h' a i (.int (nar .byte y)) → Ary Z h' a .byte N (fun q => if q = i then .int (nar .byte y) else f q) → Gl p e below s R n0 Q T' (mkF m pc' L r)) : Gl p e below s R n0 Q T (mkF m pc L (.int y :: .int j :: .ref a :: r)) := by
  obtain ⟨locs, X, N, eh⟩ := S; subst hp
  have A0 := A
  obtain ⟨cl, A, sz, z⟩ := A
  obtain ⟨q1, q2⟩ := idx_nat (c := cl) hj (by rw [sz]; exact hi)
  obtain ⟨T', h', X', eT, W, st⟩ := stB X C.1 C.2.1 eh A q1 (g := mkF m pc L (.int y :: .int j :: .ref a :: r)) rfl rfl (hb C.2.2.1 hd)
  have N' := Fr.snoc X' N ga
  rw [q2] at W
  exact (kk T' h' ⟨_, X', N', eT⟩ W (A0.same W)).st st
theorem g_bastoreZ (C : Cx p s m meth c Z own name cod maxL ret) (S : On p l e R s m args below meth c n0 T h k n) {y : Int32} (hd : decode cod pc = .ok (.bastore, 1)) (A : Ary Z h a .boolean N f) (hj : j.toInt = (i : Int)) (hi : i < N) (ga : n0 ≤ a) (hp : pc + 1 = pc') (kk : ∀ T' h', On p l e R s m args below meth c n0 T' h' k n → Wr h h' a i (.int (nar .boolean y)) → Ary Z h' a .boolean N (fun q => if q = i then .int (nar .boolean y) else f q) → Gl p e below s R n0 Q T' (mkF m pc' L r)) : Gl p e below s R n0 Q T (mkF m pc L (.int y :: .int j :: .ref a :: r)) := by
  obtain ⟨locs, X, N, eh⟩ := S; subst hp
  have A0 := A
  obtain ⟨cl, A, sz, z⟩ := A
  obtain ⟨q1, q2⟩ := idx_nat (c := cl) hj (by rw [sz]; exact hi)
  obtain ⟨T', h', X', eT, W, st⟩ := stZ X C.1 C.2.1 eh A q1 (g := mkF m pc L (.int y :: .int j :: .ref a :: r)) rfl rfl (hb C.2.2.1 hd)
  have N' := Fr.snoc X' N ga
  rw [q2] at W
  exact (kk T' h' ⟨_, X', N', eT⟩ W (A0.same W)).st st
theorem g_dastore (C : Cx p s m meth c Z own name cod maxL ret) (S : On p l e R s m args below meth c n0 T h k n) {y : UInt64} (hd : decode cod pc = .ok (.dastore, 1)) (A : Ary Z h a .double N f) (hj : j.toInt = (i : Int)) (hi : i < N) (ga : n0 ≤ a) (hp : pc + 1 = pc') (kk : ∀ T' h', On p l e R s m args below meth c n0 T' h' k n → Wr h h' a i (.double y) → Ary Z h' a .double N (fun q => if q = i then .double y else f q) → Gl p e below s R n0 Q T' (mkF m pc' L r)) : Gl p e below s R n0 Q T (mkF m pc L (.double y :: .int j :: .ref a :: r)) := by
  obtain ⟨locs, X, N, eh⟩ := S; subst hp
  have A0 := A
  obtain ⟨cl, A, sz, z⟩ := A
  obtain ⟨q1, q2⟩ := idx_nat (c := cl) hj (by rw [sz]; exact hi)
  obtain ⟨T', h', X', eT, W, st⟩ := stD X C.1 C.2.1 eh A q1 (g := mkF m pc L (.double y :: .int j :: .ref a :: r)) rfl rfl (hb C.2.2.1 hd)
  have N' := Fr.snoc X' N ga
  rw [q2] at W
  exact (kk T' h' ⟨_, X', N', eT⟩ W (A0.same W)).st st
theorem g_newarray (C : Cx p s m meth c Z own name cod maxL ret) (S : On p l e R s m args below meth c n0 T h k n) {aty : ArrayType} {cap : Nat} (hd : decode cod pc = .ok (.newarray aty, 2)) (w : (Jvm.Cond.arrayClass (newarray.typeOf aty)).before a0 Z = true) (hj : j.toInt = (N : Int)) (hcap : N ≤ cap) (hbig : cap * 8 ≤ 536870912) (hc : k + 1 ≤ R.cells) (hl : n + cap ≤ R.slots) (hp : pc + 2 = pc') (kk : ∀ T' h' a, On p l e R s m args below meth c n0 T' h' (k + 1) (n + cap) → a = h.size → Ext h h' → Ary Z h' a (newarray.typeOf aty) N (fun _ => defaultValue (newarray.typeOf aty)) → Gl p e below s R n0 Q T' (mkF m pc' L (.ref a :: r))) : Gl p e below s R n0 Q T (mkF m pc L (.int j :: r)) := by
  obtain ⟨locs, X, Nn, eh⟩ := S; subst hp
  have e1 : j.toNatClampNeg = N := by simp only [Int32.toNatClampNeg, hj]; omega
  have e2 : ¬ j < 0 := by rw [Int32.lt_iff_toInt_lt, hj]; have : (0 : Int32).toInt = 0 := rfl; omega
  obtain ⟨T', h', cA, X', eT, E, A, st⟩ := newP X C.1 C.2.1 w eh (g := mkF m pc L (.int j :: r)) rfl (hb C.2.2.1 hd) rfl e2 (cap := cap) (by rw [e1]; exact hcap) hbig hc hl
  refine (kk T' h' h.size ⟨_, X', Nn, eT⟩ rfl E ⟨_, A, by rw [sz_new]; exact e1, fun i hi => ?_⟩).st st
  simp [newA, e1, hi]
theorem ge_of {z : Nat} (e1 : a = z) (q : n0 ≤ z) : n0 ≤ a := e1 ▸ q
theorem ne_new (e1 : b = h.size) (q : a < h.size) : a ≠ b := fun e => by rw [e, e1] at q; exact Nat.lt_irrefl _ q
end OwnKit
def own_in (z : Int) : Prop := (65 ≤ z ∧ z ≤ 90) ∨ (95 ≤ z ∧ z ≤ 95) ∨ (97 ≤ z ∧ z ≤ 122) ∨ (192 ≤ z ∧ z ≤ 214) ∨ (216 ≤ z ∧ z ≤ 246) ∨ (248 ≤ z ∧ z ≤ 767) ∨ (880 ≤ z ∧ z ≤ 893) ∨ (895 ≤ z ∧ z ≤ 8191) ∨ (8204 ≤ z ∧ z ≤ 8205) ∨ (8304 ≤ z ∧ z ≤ 8591) ∨ (11264 ≤ z ∧ z ≤ 12271) ∨ (12289 ≤ z ∧ z ≤ 55295) ∨ (63744 ≤ z ∧ z ≤ 64975) ∨ (65008 ≤ z ∧ z ≤ 65533) ∨ (65536 ≤ z ∧ z ≤ 983039)
instance (z : Int) : Decidable (own_in z) := by unfold own_in; infer_instance
theorem own_lt {c k : Int32} {n : Int} (hk : k.toInt = n) (h : c < k) : c.toInt < n := by rw [Int32.lt_iff_toInt_lt] at h; omega
theorem own_nlt {c k : Int32} {n : Int} (hk : k.toInt = n) (h : ¬ c < k) : n ≤ c.toInt := by rw [Int32.lt_iff_toInt_lt] at h; omega
theorem own_gt {c k : Int32} {n : Int} (hk : k.toInt = n) (h : k < c) : n < c.toInt := by rw [Int32.lt_iff_toInt_lt] at h; omega
theorem own_ngt {c k : Int32} {n : Int} (hk : k.toInt = n) (h : ¬ k < c) : c.toInt ≤ n := by rw [Int32.lt_iff_toInt_lt] at h; omega
theorem own_eq {c k : Int32} {n : Int} (hk : k.toInt = n) (h : c = k) : c.toInt = n := by rw [h]; exact hk
theorem own_ne {c k : Int32} {n : Int} (hk : k.toInt = n) (h : ¬ c = k) : c.toInt ≠ n := fun q => h (Int32.toInt_inj.mp (q.trans hk.symm))
theorem own_none {z : Int} (h0 : ¬ (65 ≤ z ∧ z ≤ 90)) (h1 : ¬ (95 ≤ z ∧ z ≤ 95)) (h2 : ¬ (97 ≤ z ∧ z ≤ 122)) (h3 : ¬ (192 ≤ z ∧ z ≤ 214)) (h4 : ¬ (216 ≤ z ∧ z ≤ 246)) (h5 : ¬ (248 ≤ z ∧ z ≤ 767)) (h6 : ¬ (880 ≤ z ∧ z ≤ 893)) (h7 : ¬ (895 ≤ z ∧ z ≤ 8191)) (h8 : ¬ (8204 ≤ z ∧ z ≤ 8205)) (h9 : ¬ (8304 ≤ z ∧ z ≤ 8591)) (h10 : ¬ (11264 ≤ z ∧ z ≤ 12271)) (h11 : ¬ (12289 ≤ z ∧ z ≤ 55295)) (h12 : ¬ (63744 ≤ z ∧ z ≤ 64975)) (h13 : ¬ (65008 ≤ z ∧ z ≤ 65533)) (h14 : ¬ (65536 ≤ z ∧ z ≤ 983039)) : ¬ own_in z := fun h => h.elim h0 fun h => h.elim h1 fun h => h.elim h2 fun h => h.elim h3 fun h => h.elim h4 fun h => h.elim h5 fun h => h.elim h6 fun h => h.elim h7 fun h => h.elim h8 fun h => h.elim h9 fun h => h.elim h10 fun h => h.elim h11 fun h => h.elim h12 fun h => h.elim h13 fun h => h14 h
theorem dn_0 : decode prog_117_method_5_code 0 = .ok (.iload_n 0, 1) := by decide +kernel
theorem dn_1 : decode prog_117_method_5_code 1 = .ok (.bipush 65, 2) := by decide +kernel
theorem dn_3 : decode prog_117_method_5_code 3 = .ok (.if_icmp .lt 9, 3) := by decide +kernel
theorem dn_6 : decode prog_117_method_5_code 6 = .ok (.iload_n 0, 1) := by decide +kernel
theorem dn_7 : decode prog_117_method_5_code 7 = .ok (.bipush 90, 2) := by decide +kernel
theorem dn_9 : decode prog_117_method_5_code 9 = .ok (.if_icmp .le 182, 3) := by decide +kernel
theorem dn_12 : decode prog_117_method_5_code 12 = .ok (.iload_n 0, 1) := by decide +kernel
theorem dn_13 : decode prog_117_method_5_code 13 = .ok (.bipush 95, 2) := by decide +kernel
theorem dn_15 : decode prog_117_method_5_code 15 = .ok (.if_icmp .eq 176, 3) := by decide +kernel
theorem dn_18 : decode prog_117_method_5_code 18 = .ok (.iload_n 0, 1) := by decide +kernel
theorem dn_19 : decode prog_117_method_5_code 19 = .ok (.bipush 97, 2) := by decide +kernel
theorem dn_21 : decode prog_117_method_5_code 21 = .ok (.if_icmp .lt 9, 3) := by decide +kernel
theorem dn_24 : decode prog_117_method_5_code 24 = .ok (.iload_n 0, 1) := by decide +kernel
theorem dn_25 : decode prog_117_method_5_code 25 = .ok (.bipush 122, 2) := by decide +kernel
theorem dn_27 : decode prog_117_method_5_code 27 = .ok (.if_icmp .le 164, 3) := by decide +kernel
theorem dn_30 : decode prog_117_method_5_code 30 = .ok (.iload_n 0, 1) := by decide +kernel
theorem dn_31 : decode prog_117_method_5_code 31 = .ok (.sipush 192, 3) := by decide +kernel
theorem dn_34 : decode prog_117_method_5_code 34 = .ok (.if_icmp .lt 10, 3) := by decide +kernel
theorem dn_37 : decode prog_117_method_5_code 37 = .ok (.iload_n 0, 1) := by decide +kernel
theorem dn_38 : decode prog_117_method_5_code 38 = .ok (.sipush 214, 3) := by decide +kernel
theorem dn_41 : decode prog_117_method_5_code 41 = .ok (.if_icmp .le 150, 3) := by decide +kernel
theorem dn_44 : decode prog_117_method_5_code 44 = .ok (.iload_n 0, 1) := by decide +kernel
theorem dn_45 : decode prog_117_method_5_code 45 = .ok (.sipush 216, 3) := by decide +kernel
theorem dn_48 : decode prog_117_method_5_code 48 = .ok (.if_icmp .lt 10, 3) := by decide +kernel
theorem dn_51 : decode prog_117_method_5_code 51 = .ok (.iload_n 0, 1) := by decide +kernel
theorem dn_52 : decode prog_117_method_5_code 52 = .ok (.sipush 246, 3) := by decide +kernel
theorem dn_55 : decode prog_117_method_5_code 55 = .ok (.if_icmp .le 136, 3) := by decide +kernel
theorem dn_58 : decode prog_117_method_5_code 58 = .ok (.iload_n 0, 1) := by decide +kernel
theorem dn_59 : decode prog_117_method_5_code 59 = .ok (.sipush 248, 3) := by decide +kernel
theorem dn_62 : decode prog_117_method_5_code 62 = .ok (.if_icmp .lt 10, 3) := by decide +kernel
theorem dn_65 : decode prog_117_method_5_code 65 = .ok (.iload_n 0, 1) := by decide +kernel
theorem dn_66 : decode prog_117_method_5_code 66 = .ok (.sipush 767, 3) := by decide +kernel
theorem dn_69 : decode prog_117_method_5_code 69 = .ok (.if_icmp .le 122, 3) := by decide +kernel
theorem dn_72 : decode prog_117_method_5_code 72 = .ok (.iload_n 0, 1) := by decide +kernel
theorem dn_73 : decode prog_117_method_5_code 73 = .ok (.sipush 880, 3) := by decide +kernel
theorem dn_76 : decode prog_117_method_5_code 76 = .ok (.if_icmp .lt 10, 3) := by decide +kernel
theorem dn_79 : decode prog_117_method_5_code 79 = .ok (.iload_n 0, 1) := by decide +kernel
theorem dn_80 : decode prog_117_method_5_code 80 = .ok (.sipush 893, 3) := by decide +kernel
theorem dn_83 : decode prog_117_method_5_code 83 = .ok (.if_icmp .le 108, 3) := by decide +kernel
theorem dn_86 : decode prog_117_method_5_code 86 = .ok (.iload_n 0, 1) := by decide +kernel
theorem dn_87 : decode prog_117_method_5_code 87 = .ok (.sipush 895, 3) := by decide +kernel
theorem dn_90 : decode prog_117_method_5_code 90 = .ok (.if_icmp .lt 10, 3) := by decide +kernel
theorem dn_93 : decode prog_117_method_5_code 93 = .ok (.iload_n 0, 1) := by decide +kernel
theorem dn_94 : decode prog_117_method_5_code 94 = .ok (.sipush 8191, 3) := by decide +kernel
theorem dn_97 : decode prog_117_method_5_code 97 = .ok (.if_icmp .le 94, 3) := by decide +kernel
theorem dn_100 : decode prog_117_method_5_code 100 = .ok (.iload_n 0, 1) := by decide +kernel
theorem dn_101 : decode prog_117_method_5_code 101 = .ok (.sipush 8204, 3) := by decide +kernel
theorem dn_104 : decode prog_117_method_5_code 104 = .ok (.if_icmp .lt 10, 3) := by decide +kernel
theorem dn_107 : decode prog_117_method_5_code 107 = .ok (.iload_n 0, 1) := by decide +kernel
theorem dn_108 : decode prog_117_method_5_code 108 = .ok (.sipush 8205, 3) := by decide +kernel
theorem dn_111 : decode prog_117_method_5_code 111 = .ok (.if_icmp .le 80, 3) := by decide +kernel
theorem dn_114 : decode prog_117_method_5_code 114 = .ok (.iload_n 0, 1) := by decide +kernel
theorem dn_115 : decode prog_117_method_5_code 115 = .ok (.sipush 8304, 3) := by decide +kernel
theorem dn_118 : decode prog_117_method_5_code 118 = .ok (.if_icmp .lt 10, 3) := by decide +kernel
theorem dn_121 : decode prog_117_method_5_code 121 = .ok (.iload_n 0, 1) := by decide +kernel
theorem dn_122 : decode prog_117_method_5_code 122 = .ok (.sipush 8591, 3) := by decide +kernel
theorem dn_125 : decode prog_117_method_5_code 125 = .ok (.if_icmp .le 66, 3) := by decide +kernel
theorem dn_128 : decode prog_117_method_5_code 128 = .ok (.iload_n 0, 1) := by decide +kernel
theorem dn_129 : decode prog_117_method_5_code 129 = .ok (.sipush 11264, 3) := by decide +kernel
theorem dn_132 : decode prog_117_method_5_code 132 = .ok (.if_icmp .lt 10, 3) := by decide +kernel
theorem dn_135 : decode prog_117_method_5_code 135 = .ok (.iload_n 0, 1) := by decide +kernel
theorem dn_136 : decode prog_117_method_5_code 136 = .ok (.sipush 12271, 3) := by decide +kernel
theorem dn_139 : decode prog_117_method_5_code 139 = .ok (.if_icmp .le 52, 3) := by decide +kernel
theorem dn_142 : decode prog_117_method_5_code 142 = .ok (.iload_n 0, 1) := by decide +kernel
theorem dn_143 : decode prog_117_method_5_code 143 = .ok (.sipush 12289, 3) := by decide +kernel
theorem dn_146 : decode prog_117_method_5_code 146 = .ok (.if_icmp .lt 9, 3) := by decide +kernel
theorem dn_149 : decode prog_117_method_5_code 149 = .ok (.iload_n 0, 1) := by decide +kernel
theorem dn_150 : decode prog_117_method_5_code 150 = .ok (.ldc 39, 2) := by decide +kernel
theorem dn_152 : decode prog_117_method_5_code 152 = .ok (.if_icmp .le 39, 3) := by decide +kernel
theorem dn_155 : decode prog_117_method_5_code 155 = .ok (.iload_n 0, 1) := by decide +kernel
theorem dn_156 : decode prog_117_method_5_code 156 = .ok (.ldc 40, 2) := by decide +kernel
theorem dn_158 : decode prog_117_method_5_code 158 = .ok (.if_icmp .lt 9, 3) := by decide +kernel
theorem dn_161 : decode prog_117_method_5_code 161 = .ok (.iload_n 0, 1) := by decide +kernel
theorem dn_162 : decode prog_117_method_5_code 162 = .ok (.ldc 41, 2) := by decide +kernel
theorem dn_164 : decode prog_117_method_5_code 164 = .ok (.if_icmp .le 27, 3) := by decide +kernel
theorem dn_167 : decode prog_117_method_5_code 167 = .ok (.iload_n 0, 1) := by decide +kernel
theorem dn_168 : decode prog_117_method_5_code 168 = .ok (.ldc 42, 2) := by decide +kernel
theorem dn_170 : decode prog_117_method_5_code 170 = .ok (.if_icmp .lt 9, 3) := by decide +kernel
theorem dn_173 : decode prog_117_method_5_code 173 = .ok (.iload_n 0, 1) := by decide +kernel
theorem dn_174 : decode prog_117_method_5_code 174 = .ok (.ldc 43, 2) := by decide +kernel
theorem dn_176 : decode prog_117_method_5_code 176 = .ok (.if_icmp .le 15, 3) := by decide +kernel
theorem dn_179 : decode prog_117_method_5_code 179 = .ok (.iload_n 0, 1) := by decide +kernel
theorem dn_180 : decode prog_117_method_5_code 180 = .ok (.ldc 44, 2) := by decide +kernel
theorem dn_182 : decode prog_117_method_5_code 182 = .ok (.if_icmp .lt 13, 3) := by decide +kernel
theorem dn_185 : decode prog_117_method_5_code 185 = .ok (.iload_n 0, 1) := by decide +kernel
theorem dn_186 : decode prog_117_method_5_code 186 = .ok (.ldc 45, 2) := by decide +kernel
theorem dn_188 : decode prog_117_method_5_code 188 = .ok (.if_icmp .gt 7, 3) := by decide +kernel
theorem dn_191 : decode prog_117_method_5_code 191 = .ok (.iconst 1, 1) := by decide +kernel
theorem dn_192 : decode prog_117_method_5_code 192 = .ok (.goto 4, 3) := by decide +kernel
theorem dn_195 : decode prog_117_method_5_code 195 = .ok (.iconst 0, 1) := by decide +kernel
theorem dn_196 : decode prog_117_method_5_code 196 = .ok (.ireturn, 1) := by decide +kernel
set_option maxRecDepth 65536 in
set_option maxHeartbeats 40000000 in
theorem c_isn (l : Launch) (Z : State) (a0 : Array Value) (hw : ∀ d ∈ tables_1, d.before a0 Z = true) (p1 : Int32) (h0 : Heap) (n0 : Nat) :
    Con l Z (⟨"com/example/upupa/upupa/xdm/XmlNames", "isNameStartCharacter", "(I)Z"⟩ : MethodName) prog_117_method_5_code 1 (some .boolean) ({ frames := 0, cells := 0, slots := 0, locals := 0 } : Room) #[(.int p1)] h0 n0 (fun v h => v = some (.int (if own_in p1.toInt then 1 else 0)) ∧ h = h0) := by
  refine Con.of (plainFor_of_name (by first | (simp [plainName, overriddenIn]; done) | decide +kernel)) (L0 := #[.val (.int p1)]) (fun m => by first | (simp [entryFrame, mkF, argsToLocals, Value.category]; done) | rfl) ?_
  intro p e s m below meth c T C S
  have JT : own_in p1.toInt → Gl p e below s ({ frames := 0, cells := 0, slots := 0, locals := 0 } : Room) n0 (fun v h => v = some (.int (if own_in p1.toInt then 1 else 0)) ∧ h = h0) T (mkF m 191 #[.val (.int p1)] []) := by
    intro hI
    refine g_iconst C S (1 : Int32) dn_191 (pc' := 192) rfl rfl ?_
    refine g_goto C S dn_192 (pc' := 196) (by decide) (by decide) ?_
    exact g_retZ C S dn_196 (by decide) (by decide) (by decide) (⟨by rw [if_pos hI], rfl⟩)
  have JF : ¬ own_in p1.toInt → Gl p e below s ({ frames := 0, cells := 0, slots := 0, locals := 0 } : Room) n0 (fun v h => v = some (.int (if own_in p1.toInt then 1 else 0)) ∧ h = h0) T (mkF m 195 #[.val (.int p1)] []) := by
    intro hI
    refine g_iconst C S (0 : Int32) dn_195 (pc' := 196) rfl rfl ?_
    exact g_retZ C S dn_196 (by decide) (by decide) (by decide) (⟨by rw [if_neg hI], rfl⟩)
  have J179 : ¬ (65 ≤ p1.toInt ∧ p1.toInt ≤ 90) → ¬ (95 ≤ p1.toInt ∧ p1.toInt ≤ 95) → ¬ (97 ≤ p1.toInt ∧ p1.toInt ≤ 122) → ¬ (192 ≤ p1.toInt ∧ p1.toInt ≤ 214) → ¬ (216 ≤ p1.toInt ∧ p1.toInt ≤ 246) → ¬ (248 ≤ p1.toInt ∧ p1.toInt ≤ 767) → ¬ (880 ≤ p1.toInt ∧ p1.toInt ≤ 893) → ¬ (895 ≤ p1.toInt ∧ p1.toInt ≤ 8191) → ¬ (8204 ≤ p1.toInt ∧ p1.toInt ≤ 8205) → ¬ (8304 ≤ p1.toInt ∧ p1.toInt ≤ 8591) → ¬ (11264 ≤ p1.toInt ∧ p1.toInt ≤ 12271) → ¬ (12289 ≤ p1.toInt ∧ p1.toInt ≤ 55295) → ¬ (63744 ≤ p1.toInt ∧ p1.toInt ≤ 64975) → ¬ (65008 ≤ p1.toInt ∧ p1.toInt ≤ 65533) → Gl p e below s ({ frames := 0, cells := 0, slots := 0, locals := 0 } : Room) n0 (fun v h => v = some (.int (if own_in p1.toInt then 1 else 0)) ∧ h = h0) T (mkF m 179 #[.val (.int p1)] []) := by
    intro nn0 nn1 nn2 nn3 nn4 nn5 nn6 nn7 nn8 nn9 nn10 nn11 nn12 nn13
    refine g_iloadN C S dn_179 (pc' := 180) rfl rfl ?_
    refine g_ldc C S dn_180 (hw _ (List.mem_of_getElem? (i := 15) rfl)) (pc' := 182) rfl ?_
    refine g_icmp_lt C S dn_182 (pc' := 195) (pf := 185) (by decide) (by decide) rfl (fun hc182 => ?_) (fun hc182 => ?_)
    · exact JF (own_none nn0 nn1 nn2 nn3 nn4 nn5 nn6 nn7 nn8 nn9 nn10 nn11 nn12 nn13 (fun q => absurd q.1 (Int.not_le.mpr (own_lt (by decide) hc182))))
    · refine g_iloadN C S dn_185 (pc' := 186) rfl rfl ?_
      refine g_ldc C S dn_186 (hw _ (List.mem_of_getElem? (i := 25) rfl)) (pc' := 188) rfl ?_
      refine g_icmp_gt C S dn_188 (pc' := 195) (pf := 191) (by decide) (by decide) rfl (fun hc188 => ?_) (fun hc188 => ?_)
      · exact JF (own_none nn0 nn1 nn2 nn3 nn4 nn5 nn6 nn7 nn8 nn9 nn10 nn11 nn12 nn13 (fun q => absurd q.2 (Int.not_le.mpr (own_gt (by decide) hc188))))
      · exact JT (Or.inr (Or.inr (Or.inr (Or.inr (Or.inr (Or.inr (Or.inr (Or.inr (Or.inr (Or.inr (Or.inr (Or.inr (Or.inr (Or.inr (⟨own_nlt (by decide) hc182, own_ngt (by decide) hc188⟩)))))))))))))))
  have J167 : ¬ (65 ≤ p1.toInt ∧ p1.toInt ≤ 90) → ¬ (95 ≤ p1.toInt ∧ p1.toInt ≤ 95) → ¬ (97 ≤ p1.toInt ∧ p1.toInt ≤ 122) → ¬ (192 ≤ p1.toInt ∧ p1.toInt ≤ 214) → ¬ (216 ≤ p1.toInt ∧ p1.toInt ≤ 246) → ¬ (248 ≤ p1.toInt ∧ p1.toInt ≤ 767) → ¬ (880 ≤ p1.toInt ∧ p1.toInt ≤ 893) → ¬ (895 ≤ p1.toInt ∧ p1.toInt ≤ 8191) → ¬ (8204 ≤ p1.toInt ∧ p1.toInt ≤ 8205) → ¬ (8304 ≤ p1.toInt ∧ p1.toInt ≤ 8591) → ¬ (11264 ≤ p1.toInt ∧ p1.toInt ≤ 12271) → ¬ (12289 ≤ p1.toInt ∧ p1.toInt ≤ 55295) → ¬ (63744 ≤ p1.toInt ∧ p1.toInt ≤ 64975) → Gl p e below s ({ frames := 0, cells := 0, slots := 0, locals := 0 } : Room) n0 (fun v h => v = some (.int (if own_in p1.toInt then 1 else 0)) ∧ h = h0) T (mkF m 167 #[.val (.int p1)] []) := by
    intro nn0 nn1 nn2 nn3 nn4 nn5 nn6 nn7 nn8 nn9 nn10 nn11 nn12
    refine g_iloadN C S dn_167 (pc' := 168) rfl rfl ?_
    refine g_ldc C S dn_168 (hw _ (List.mem_of_getElem? (i := 14) rfl)) (pc' := 170) rfl ?_
    refine g_icmp_lt C S dn_170 (pc' := 179) (pf := 173) (by decide) (by decide) rfl (fun hc170 => ?_) (fun hc170 => ?_)
    · exact J179 nn0 nn1 nn2 nn3 nn4 nn5 nn6 nn7 nn8 nn9 nn10 nn11 nn12 (fun q => absurd q.1 (Int.not_le.mpr (own_lt (by decide) hc170)))
    · refine g_iloadN C S dn_173 (pc' := 174) rfl rfl ?_
      refine g_ldc C S dn_174 (hw _ (List.mem_of_getElem? (i := 24) rfl)) (pc' := 176) rfl ?_
      refine g_icmp_le C S dn_176 (pc' := 191) (pf := 179) (by decide) (by decide) rfl (fun hc176 => ?_) (fun hc176 => ?_)
      · exact JT (Or.inr (Or.inr (Or.inr (Or.inr (Or.inr (Or.inr (Or.inr (Or.inr (Or.inr (Or.inr (Or.inr (Or.inr (Or.inr (Or.inl (⟨own_nlt (by decide) hc170, own_ngt (by decide) hc176⟩)))))))))))))))
      · exact J179 nn0 nn1 nn2 nn3 nn4 nn5 nn6 nn7 nn8 nn9 nn10 nn11 nn12 (fun q => absurd q.2 (Int.not_le.mpr (own_gt (by decide) hc176)))
  have J155 : ¬ (65 ≤ p1.toInt ∧ p1.toInt ≤ 90) → ¬ (95 ≤ p1.toInt ∧ p1.toInt ≤ 95) → ¬ (97 ≤ p1.toInt ∧ p1.toInt ≤ 122) → ¬ (192 ≤ p1.toInt ∧ p1.toInt ≤ 214) → ¬ (216 ≤ p1.toInt ∧ p1.toInt ≤ 246) → ¬ (248 ≤ p1.toInt ∧ p1.toInt ≤ 767) → ¬ (880 ≤ p1.toInt ∧ p1.toInt ≤ 893) → ¬ (895 ≤ p1.toInt ∧ p1.toInt ≤ 8191) → ¬ (8204 ≤ p1.toInt ∧ p1.toInt ≤ 8205) → ¬ (8304 ≤ p1.toInt ∧ p1.toInt ≤ 8591) → ¬ (11264 ≤ p1.toInt ∧ p1.toInt ≤ 12271) → ¬ (12289 ≤ p1.toInt ∧ p1.toInt ≤ 55295) → Gl p e below s ({ frames := 0, cells := 0, slots := 0, locals := 0 } : Room) n0 (fun v h => v = some (.int (if own_in p1.toInt then 1 else 0)) ∧ h = h0) T (mkF m 155 #[.val (.int p1)] []) := by
    intro nn0 nn1 nn2 nn3 nn4 nn5 nn6 nn7 nn8 nn9 nn10 nn11
    refine g_iloadN C S dn_155 (pc' := 156) rfl rfl ?_
    refine g_ldc C S dn_156 (hw _ (List.mem_of_getElem? (i := 13) rfl)) (pc' := 158) rfl ?_
    refine g_icmp_lt C S dn_158 (pc' := 167) (pf := 161) (by decide) (by decide) rfl (fun hc158 => ?_) (fun hc158 => ?_)
    · exact J167 nn0 nn1 nn2 nn3 nn4 nn5 nn6 nn7 nn8 nn9 nn10 nn11 (fun q => absurd q.1 (Int.not_le.mpr (own_lt (by decide) hc158)))
    · refine g_iloadN C S dn_161 (pc' := 162) rfl rfl ?_
      refine g_ldc C S dn_162 (hw _ (List.mem_of_getElem? (i := 23) rfl)) (pc' := 164) rfl ?_
      refine g_icmp_le C S dn_164 (pc' := 191) (pf := 167) (by decide) (by decide) rfl (fun hc164 => ?_) (fun hc164 => ?_)
      · exact JT (Or.inr (Or.inr (Or.inr (Or.inr (Or.inr (Or.inr (Or.inr (Or.inr (Or.inr (Or.inr (Or.inr (Or.inr (Or.inl (⟨own_nlt (by decide) hc158, own_ngt (by decide) hc164⟩))))))))))))))
      · exact J167 nn0 nn1 nn2 nn3 nn4 nn5 nn6 nn7 nn8 nn9 nn10 nn11 (fun q => absurd q.2 (Int.not_le.mpr (own_gt (by decide) hc164)))
  have J142 : ¬ (65 ≤ p1.toInt ∧ p1.toInt ≤ 90) → ¬ (95 ≤ p1.toInt ∧ p1.toInt ≤ 95) → ¬ (97 ≤ p1.toInt ∧ p1.toInt ≤ 122) → ¬ (192 ≤ p1.toInt ∧ p1.toInt ≤ 214) → ¬ (216 ≤ p1.toInt ∧ p1.toInt ≤ 246) → ¬ (248 ≤ p1.toInt ∧ p1.toInt ≤ 767) → ¬ (880 ≤ p1.toInt ∧ p1.toInt ≤ 893) → ¬ (895 ≤ p1.toInt ∧ p1.toInt ≤ 8191) → ¬ (8204 ≤ p1.toInt ∧ p1.toInt ≤ 8205) → ¬ (8304 ≤ p1.toInt ∧ p1.toInt ≤ 8591) → ¬ (11264 ≤ p1.toInt ∧ p1.toInt ≤ 12271) → Gl p e below s ({ frames := 0, cells := 0, slots := 0, locals := 0 } : Room) n0 (fun v h => v = some (.int (if own_in p1.toInt then 1 else 0)) ∧ h = h0) T (mkF m 142 #[.val (.int p1)] []) := by
    intro nn0 nn1 nn2 nn3 nn4 nn5 nn6 nn7 nn8 nn9 nn10
    refine g_iloadN C S dn_142 (pc' := 143) rfl rfl ?_
    refine g_sipush C S (12289 : Int32) dn_143 (pc' := 146) rfl rfl ?_
    refine g_icmp_lt C S dn_146 (pc' := 155) (pf := 149) (by decide) (by decide) rfl (fun hc146 => ?_) (fun hc146 => ?_)
    · exact J155 nn0 nn1 nn2 nn3 nn4 nn5 nn6 nn7 nn8 nn9 nn10 (fun q => absurd q.1 (Int.not_le.mpr (own_lt (by decide) hc146)))
    · refine g_iloadN C S dn_149 (pc' := 150) rfl rfl ?_
      refine g_ldc C S dn_150 (hw _ (List.mem_of_getElem? (i := 22) rfl)) (pc' := 152) rfl ?_
      refine g_icmp_le C S dn_152 (pc' := 191) (pf := 155) (by decide) (by decide) rfl (fun hc152 => ?_) (fun hc152 => ?_)
      · exact JT (Or.inr (Or.inr (Or.inr (Or.inr (Or.inr (Or.inr (Or.inr (Or.inr (Or.inr (Or.inr (Or.inr (Or.inl (⟨own_nlt (by decide) hc146, own_ngt (by decide) hc152⟩)))))))))))))
      · exact J155 nn0 nn1 nn2 nn3 nn4 nn5 nn6 nn7 nn8 nn9 nn10 (fun q => absurd q.2 (Int.not_le.mpr (own_gt (by decide) hc152)))
  have J128 : ¬ (65 ≤ p1.toInt ∧ p1.toInt ≤ 90) → ¬ (95 ≤ p1.toInt ∧ p1.toInt ≤ 95) → ¬ (97 ≤ p1.toInt ∧ p1.toInt ≤ 122) → ¬ (192 ≤ p1.toInt ∧ p1.toInt ≤ 214) → ¬ (216 ≤ p1.toInt ∧ p1.toInt ≤ 246) → ¬ (248 ≤ p1.toInt ∧ p1.toInt ≤ 767) → ¬ (880 ≤ p1.toInt ∧ p1.toInt ≤ 893) → ¬ (895 ≤ p1.toInt ∧ p1.toInt ≤ 8191) → ¬ (8204 ≤ p1.toInt ∧ p1.toInt ≤ 8205) → ¬ (8304 ≤ p1.toInt ∧ p1.toInt ≤ 8591) → Gl p e below s ({ frames := 0, cells := 0, slots := 0, locals := 0 } : Room) n0 (fun v h => v = some (.int (if own_in p1.toInt then 1 else 0)) ∧ h = h0) T (mkF m 128 #[.val (.int p1)] []) := by
    intro nn0 nn1 nn2 nn3 nn4 nn5 nn6 nn7 nn8 nn9
    refine g_iloadN C S dn_128 (pc' := 129) rfl rfl ?_
    refine g_sipush C S (11264 : Int32) dn_129 (pc' := 132) rfl rfl ?_
    refine g_icmp_lt C S dn_132 (pc' := 142) (pf := 135) (by decide) (by decide) rfl (fun hc132 => ?_) (fun hc132 => ?_)
    · exact J142 nn0 nn1 nn2 nn3 nn4 nn5 nn6 nn7 nn8 nn9 (fun q => absurd q.1 (Int.not_le.mpr (own_lt (by decide) hc132)))
    · refine g_iloadN C S dn_135 (pc' := 136) rfl rfl ?_
      refine g_sipush C S (12271 : Int32) dn_136 (pc' := 139) rfl rfl ?_
      refine g_icmp_le C S dn_139 (pc' := 191) (pf := 142) (by decide) (by decide) rfl (fun hc139 => ?_) (fun hc139 => ?_)
      · exact JT (Or.inr (Or.inr (Or.inr (Or.inr (Or.inr (Or.inr (Or.inr (Or.inr (Or.inr (Or.inr (Or.inl (⟨own_nlt (by decide) hc132, own_ngt (by decide) hc139⟩))))))))))))
      · exact J142 nn0 nn1 nn2 nn3 nn4 nn5 nn6 nn7 nn8 nn9 (fun q => absurd q.2 (Int.not_le.mpr (own_gt (by decide) hc139)))
  have J114 : ¬ (65 ≤ p1.toInt ∧ p1.toInt ≤ 90) → ¬ (95 ≤ p1.toInt ∧ p1.toInt ≤ 95) → ¬ (97 ≤ p1.toInt ∧ p1.toInt ≤ 122) → ¬ (192 ≤ p1.toInt ∧ p1.toInt ≤ 214) → ¬ (216 ≤ p1.toInt ∧ p1.toInt ≤ 246) → ¬ (248 ≤ p1.toInt ∧ p1.toInt ≤ 767) → ¬ (880 ≤ p1.toInt ∧ p1.toInt ≤ 893) → ¬ (895 ≤ p1.toInt ∧ p1.toInt ≤ 8191) → ¬ (8204 ≤ p1.toInt ∧ p1.toInt ≤ 8205) → Gl p e below s ({ frames := 0, cells := 0, slots := 0, locals := 0 } : Room) n0 (fun v h => v = some (.int (if own_in p1.toInt then 1 else 0)) ∧ h = h0) T (mkF m 114 #[.val (.int p1)] []) := by
    intro nn0 nn1 nn2 nn3 nn4 nn5 nn6 nn7 nn8
    refine g_iloadN C S dn_114 (pc' := 115) rfl rfl ?_
    refine g_sipush C S (8304 : Int32) dn_115 (pc' := 118) rfl rfl ?_
    refine g_icmp_lt C S dn_118 (pc' := 128) (pf := 121) (by decide) (by decide) rfl (fun hc118 => ?_) (fun hc118 => ?_)
    · exact J128 nn0 nn1 nn2 nn3 nn4 nn5 nn6 nn7 nn8 (fun q => absurd q.1 (Int.not_le.mpr (own_lt (by decide) hc118)))
    · refine g_iloadN C S dn_121 (pc' := 122) rfl rfl ?_
      refine g_sipush C S (8591 : Int32) dn_122 (pc' := 125) rfl rfl ?_
      refine g_icmp_le C S dn_125 (pc' := 191) (pf := 128) (by decide) (by decide) rfl (fun hc125 => ?_) (fun hc125 => ?_)
      · exact JT (Or.inr (Or.inr (Or.inr (Or.inr (Or.inr (Or.inr (Or.inr (Or.inr (Or.inr (Or.inl (⟨own_nlt (by decide) hc118, own_ngt (by decide) hc125⟩)))))))))))
      · exact J128 nn0 nn1 nn2 nn3 nn4 nn5 nn6 nn7 nn8 (fun q => absurd q.2 (Int.not_le.mpr (own_gt (by decide) hc125)))
  have J100 : ¬ (65 ≤ p1.toInt ∧ p1.toInt ≤ 90) → ¬ (95 ≤ p1.toInt ∧ p1.toInt ≤ 95) → ¬ (97 ≤ p1.toInt ∧ p1.toInt ≤ 122) → ¬ (192 ≤ p1.toInt ∧ p1.toInt ≤ 214) → ¬ (216 ≤ p1.toInt ∧ p1.toInt ≤ 246) → ¬ (248 ≤ p1.toInt ∧ p1.toInt ≤ 767) → ¬ (880 ≤ p1.toInt ∧ p1.toInt ≤ 893) → ¬ (895 ≤ p1.toInt ∧ p1.toInt ≤ 8191) → Gl p e below s ({ frames := 0, cells := 0, slots := 0, locals := 0 } : Room) n0 (fun v h => v = some (.int (if own_in p1.toInt then 1 else 0)) ∧ h = h0) T (mkF m 100 #[.val (.int p1)] []) := by
    intro nn0 nn1 nn2 nn3 nn4 nn5 nn6 nn7
    refine g_iloadN C S dn_100 (pc' := 101) rfl rfl ?_
    refine g_sipush C S (8204 : Int32) dn_101 (pc' := 104) rfl rfl ?_
    refine g_icmp_lt C S dn_104 (pc' := 114) (pf := 107) (by decide) (by decide) rfl (fun hc104 => ?_) (fun hc104 => ?_)
    · exact J114 nn0 nn1 nn2 nn3 nn4 nn5 nn6 nn7 (fun q => absurd q.1 (Int.not_le.mpr (own_lt (by decide) hc104)))
    · refine g_iloadN C S dn_107 (pc' := 108) rfl rfl ?_
      refine g_sipush C S (8205 : Int32) dn_108 (pc' := 111) rfl rfl ?_
      refine g_icmp_le C S dn_111 (pc' := 191) (pf := 114) (by decide) (by decide) rfl (fun hc111 => ?_) (fun hc111 => ?_)
      · exact JT (Or.inr (Or.inr (Or.inr (Or.inr (Or.inr (Or.inr (Or.inr (Or.inr (Or.inl (⟨own_nlt (by decide) hc104, own_ngt (by decide) hc111⟩))))))))))
      · exact J114 nn0 nn1 nn2 nn3 nn4 nn5 nn6 nn7 (fun q => absurd q.2 (Int.not_le.mpr (own_gt (by decide) hc111)))
  have J86 : ¬ (65 ≤ p1.toInt ∧ p1.toInt ≤ 90) → ¬ (95 ≤ p1.toInt ∧ p1.toInt ≤ 95) → ¬ (97 ≤ p1.toInt ∧ p1.toInt ≤ 122) → ¬ (192 ≤ p1.toInt ∧ p1.toInt ≤ 214) → ¬ (216 ≤ p1.toInt ∧ p1.toInt ≤ 246) → ¬ (248 ≤ p1.toInt ∧ p1.toInt ≤ 767) → ¬ (880 ≤ p1.toInt ∧ p1.toInt ≤ 893) → Gl p e below s ({ frames := 0, cells := 0, slots := 0, locals := 0 } : Room) n0 (fun v h => v = some (.int (if own_in p1.toInt then 1 else 0)) ∧ h = h0) T (mkF m 86 #[.val (.int p1)] []) := by
    intro nn0 nn1 nn2 nn3 nn4 nn5 nn6
    refine g_iloadN C S dn_86 (pc' := 87) rfl rfl ?_
    refine g_sipush C S (895 : Int32) dn_87 (pc' := 90) rfl rfl ?_
    refine g_icmp_lt C S dn_90 (pc' := 100) (pf := 93) (by decide) (by decide) rfl (fun hc90 => ?_) (fun hc90 => ?_)
    · exact J100 nn0 nn1 nn2 nn3 nn4 nn5 nn6 (fun q => absurd q.1 (Int.not_le.mpr (own_lt (by decide) hc90)))
    · refine g_iloadN C S dn_93 (pc' := 94) rfl rfl ?_
      refine g_sipush C S (8191 : Int32) dn_94 (pc' := 97) rfl rfl ?_
      refine g_icmp_le C S dn_97 (pc' := 191) (pf := 100) (by decide) (by decide) rfl (fun hc97 => ?_) (fun hc97 => ?_)
      · exact JT (Or.inr (Or.inr (Or.inr (Or.inr (Or.inr (Or.inr (Or.inr (Or.inl (⟨own_nlt (by decide) hc90, own_ngt (by decide) hc97⟩)))))))))
      · exact J100 nn0 nn1 nn2 nn3 nn4 nn5 nn6 (fun q => absurd q.2 (Int.not_le.mpr (own_gt (by decide) hc97)))
  have J72 : ¬ (65 ≤ p1.toInt ∧ p1.toInt ≤ 90) → ¬ (95 ≤ p1.toInt ∧ p1.toInt ≤ 95) → ¬ (97 ≤ p1.toInt ∧ p1.toInt ≤ 122) → ¬ (192 ≤ p1.toInt ∧ p1.toInt ≤ 214) → ¬ (216 ≤ p1.toInt ∧ p1.toInt ≤ 246) → ¬ (248 ≤ p1.toInt ∧ p1.toInt ≤ 767) → Gl p e below s ({ frames := 0, cells := 0, slots := 0, locals := 0 } : Room) n0 (fun v h => v = some (.int (if own_in p1.toInt then 1 else 0)) ∧ h = h0) T (mkF m 72 #[.val (.int p1)] []) := by
    intro nn0 nn1 nn2 nn3 nn4 nn5
    refine g_iloadN C S dn_72 (pc' := 73) rfl rfl ?_
    refine g_sipush C S (880 : Int32) dn_73 (pc' := 76) rfl rfl ?_
    refine g_icmp_lt C S dn_76 (pc' := 86) (pf := 79) (by decide) (by decide) rfl (fun hc76 => ?_) (fun hc76 => ?_)
    · exact J86 nn0 nn1 nn2 nn3 nn4 nn5 (fun q => absurd q.1 (Int.not_le.mpr (own_lt (by decide) hc76)))
    · refine g_iloadN C S dn_79 (pc' := 80) rfl rfl ?_
      refine g_sipush C S (893 : Int32) dn_80 (pc' := 83) rfl rfl ?_
      refine g_icmp_le C S dn_83 (pc' := 191) (pf := 86) (by decide) (by decide) rfl (fun hc83 => ?_) (fun hc83 => ?_)
      · exact JT (Or.inr (Or.inr (Or.inr (Or.inr (Or.inr (Or.inr (Or.inl (⟨own_nlt (by decide) hc76, own_ngt (by decide) hc83⟩))))))))
      · exact J86 nn0 nn1 nn2 nn3 nn4 nn5 (fun q => absurd q.2 (Int.not_le.mpr (own_gt (by decide) hc83)))
  have J58 : ¬ (65 ≤ p1.toInt ∧ p1.toInt ≤ 90) → ¬ (95 ≤ p1.toInt ∧ p1.toInt ≤ 95) → ¬ (97 ≤ p1.toInt ∧ p1.toInt ≤ 122) → ¬ (192 ≤ p1.toInt ∧ p1.toInt ≤ 214) → ¬ (216 ≤ p1.toInt ∧ p1.toInt ≤ 246) → Gl p e below s ({ frames := 0, cells := 0, slots := 0, locals := 0 } : Room) n0 (fun v h => v = some (.int (if own_in p1.toInt then 1 else 0)) ∧ h = h0) T (mkF m 58 #[.val (.int p1)] []) := by
    intro nn0 nn1 nn2 nn3 nn4
    refine g_iloadN C S dn_58 (pc' := 59) rfl rfl ?_
    refine g_sipush C S (248 : Int32) dn_59 (pc' := 62) rfl rfl ?_
    refine g_icmp_lt C S dn_62 (pc' := 72) (pf := 65) (by decide) (by decide) rfl (fun hc62 => ?_) (fun hc62 => ?_)
    · exact J72 nn0 nn1 nn2 nn3 nn4 (fun q => absurd q.1 (Int.not_le.mpr (own_lt (by decide) hc62)))
    · refine g_iloadN C S dn_65 (pc' := 66) rfl rfl ?_
      refine g_sipush C S (767 : Int32) dn_66 (pc' := 69) rfl rfl ?_
      refine g_icmp_le C S dn_69 (pc' := 191) (pf := 72) (by decide) (by decide) rfl (fun hc69 => ?_) (fun hc69 => ?_)
      · exact JT (Or.inr (Or.inr (Or.inr (Or.inr (Or.inr (Or.inl (⟨own_nlt (by decide) hc62, own_ngt (by decide) hc69⟩)))))))
      · exact J72 nn0 nn1 nn2 nn3 nn4 (fun q => absurd q.2 (Int.not_le.mpr (own_gt (by decide) hc69)))
  have J44 : ¬ (65 ≤ p1.toInt ∧ p1.toInt ≤ 90) → ¬ (95 ≤ p1.toInt ∧ p1.toInt ≤ 95) → ¬ (97 ≤ p1.toInt ∧ p1.toInt ≤ 122) → ¬ (192 ≤ p1.toInt ∧ p1.toInt ≤ 214) → Gl p e below s ({ frames := 0, cells := 0, slots := 0, locals := 0 } : Room) n0 (fun v h => v = some (.int (if own_in p1.toInt then 1 else 0)) ∧ h = h0) T (mkF m 44 #[.val (.int p1)] []) := by
    intro nn0 nn1 nn2 nn3
    refine g_iloadN C S dn_44 (pc' := 45) rfl rfl ?_
    refine g_sipush C S (216 : Int32) dn_45 (pc' := 48) rfl rfl ?_
    refine g_icmp_lt C S dn_48 (pc' := 58) (pf := 51) (by decide) (by decide) rfl (fun hc48 => ?_) (fun hc48 => ?_)
    · exact J58 nn0 nn1 nn2 nn3 (fun q => absurd q.1 (Int.not_le.mpr (own_lt (by decide) hc48)))
    · refine g_iloadN C S dn_51 (pc' := 52) rfl rfl ?_
      refine g_sipush C S (246 : Int32) dn_52 (pc' := 55) rfl rfl ?_
      refine g_icmp_le C S dn_55 (pc' := 191) (pf := 58) (by decide) (by decide) rfl (fun hc55 => ?_) (fun hc55 => ?_)
      · exact JT (Or.inr (Or.inr (Or.inr (Or.inr (Or.inl (⟨own_nlt (by decide) hc48, own_ngt (by decide) hc55⟩))))))
      · exact J58 nn0 nn1 nn2 nn3 (fun q => absurd q.2 (Int.not_le.mpr (own_gt (by decide) hc55)))
  have J30 : ¬ (65 ≤ p1.toInt ∧ p1.toInt ≤ 90) → ¬ (95 ≤ p1.toInt ∧ p1.toInt ≤ 95) → ¬ (97 ≤ p1.toInt ∧ p1.toInt ≤ 122) → Gl p e below s ({ frames := 0, cells := 0, slots := 0, locals := 0 } : Room) n0 (fun v h => v = some (.int (if own_in p1.toInt then 1 else 0)) ∧ h = h0) T (mkF m 30 #[.val (.int p1)] []) := by
    intro nn0 nn1 nn2
    refine g_iloadN C S dn_30 (pc' := 31) rfl rfl ?_
    refine g_sipush C S (192 : Int32) dn_31 (pc' := 34) rfl rfl ?_
    refine g_icmp_lt C S dn_34 (pc' := 44) (pf := 37) (by decide) (by decide) rfl (fun hc34 => ?_) (fun hc34 => ?_)
    · exact J44 nn0 nn1 nn2 (fun q => absurd q.1 (Int.not_le.mpr (own_lt (by decide) hc34)))
    · refine g_iloadN C S dn_37 (pc' := 38) rfl rfl ?_
      refine g_sipush C S (214 : Int32) dn_38 (pc' := 41) rfl rfl ?_
      refine g_icmp_le C S dn_41 (pc' := 191) (pf := 44) (by decide) (by decide) rfl (fun hc41 => ?_) (fun hc41 => ?_)
      · exact JT (Or.inr (Or.inr (Or.inr (Or.inl (⟨own_nlt (by decide) hc34, own_ngt (by decide) hc41⟩)))))
      · exact J44 nn0 nn1 nn2 (fun q => absurd q.2 (Int.not_le.mpr (own_gt (by decide) hc41)))
  have J18 : ¬ (65 ≤ p1.toInt ∧ p1.toInt ≤ 90) → ¬ (95 ≤ p1.toInt ∧ p1.toInt ≤ 95) → Gl p e below s ({ frames := 0, cells := 0, slots := 0, locals := 0 } : Room) n0 (fun v h => v = some (.int (if own_in p1.toInt then 1 else 0)) ∧ h = h0) T (mkF m 18 #[.val (.int p1)] []) := by
    intro nn0 nn1
    refine g_iloadN C S dn_18 (pc' := 19) rfl rfl ?_
    refine g_bipush C S (97 : Int32) dn_19 (pc' := 21) rfl rfl ?_
    refine g_icmp_lt C S dn_21 (pc' := 30) (pf := 24) (by decide) (by decide) rfl (fun hc21 => ?_) (fun hc21 => ?_)
    · exact J30 nn0 nn1 (fun q => absurd q.1 (Int.not_le.mpr (own_lt (by decide) hc21)))
    · refine g_iloadN C S dn_24 (pc' := 25) rfl rfl ?_
      refine g_bipush C S (122 : Int32) dn_25 (pc' := 27) rfl rfl ?_
      refine g_icmp_le C S dn_27 (pc' := 191) (pf := 30) (by decide) (by decide) rfl (fun hc27 => ?_) (fun hc27 => ?_)
      · exact JT (Or.inr (Or.inr (Or.inl (⟨own_nlt (by decide) hc21, own_ngt (by decide) hc27⟩))))
      · exact J30 nn0 nn1 (fun q => absurd q.2 (Int.not_le.mpr (own_gt (by decide) hc27)))
  have J12 : ¬ (65 ≤ p1.toInt ∧ p1.toInt ≤ 90) → Gl p e below s ({ frames := 0, cells := 0, slots := 0, locals := 0 } : Room) n0 (fun v h => v = some (.int (if own_in p1.toInt then 1 else 0)) ∧ h = h0) T (mkF m 12 #[.val (.int p1)] []) := by
    intro nn0
    refine g_iloadN C S dn_12 (pc' := 13) rfl rfl ?_
    refine g_bipush C S (95 : Int32) dn_13 (pc' := 15) rfl rfl ?_
    refine g_icmp_eq C S dn_15 (pc' := 191) (pf := 18) (by decide) (by decide) rfl (fun hc15 => ?_) (fun hc15 => ?_)
    · exact JT (Or.inr (Or.inl (⟨Int.le_of_eq (own_eq (n := 95) (by decide) hc15).symm, Int.le_of_eq (own_eq (n := 95) (by decide) hc15)⟩)))
    · exact J18 nn0 (fun q => own_ne (n := 95) (by decide) hc15 (Int.le_antisymm q.2 q.1))
  refine g_iloadN C S dn_0 (pc' := 1) rfl rfl ?_
  refine g_bipush C S (65 : Int32) dn_1 (pc' := 3) rfl rfl ?_
  refine g_icmp_lt C S dn_3 (pc' := 12) (pf := 6) (by decide) (by decide) rfl (fun hc3 => ?_) (fun hc3 => ?_)
  · exact J12  (fun q => absurd q.1 (Int.not_le.mpr (own_lt (by decide) hc3)))
  · refine g_iloadN C S dn_6 (pc' := 7) rfl rfl ?_
    refine g_bipush C S (90 : Int32) dn_7 (pc' := 9) rfl rfl ?_
    refine g_icmp_le C S dn_9 (pc' := 191) (pf := 12) (by decide) (by decide) rfl (fun hc9 => ?_) (fun hc9 => ?_)
    · exact JT (Or.inl (⟨own_nlt (by decide) hc3, own_ngt (by decide) hc9⟩))
    · exact J12  (fun q => absurd q.2 (Int.not_le.mpr (own_gt (by decide) hc9)))
theorem own_gap0 {z : Int} (h : (z < 65)) : ¬ own_in z := by
  intro q; unfold own_in at q; omega
theorem own_gap1 {z : Int} (h : (983039 < z)) : ¬ own_in z := by
  intro q; unfold own_in at q; omega
theorem own_gap2 {z : Int} (h : (91 ≤ z ∧ z ≤ 94)) : ¬ own_in z := by
  intro q; unfold own_in at q; omega
theorem own_gap3 {z : Int} (h : (96 ≤ z ∧ z ≤ 96)) : ¬ own_in z := by
  intro q; unfold own_in at q; omega
theorem own_gap4 {z : Int} (h : (123 ≤ z ∧ z ≤ 191)) : ¬ own_in z := by
  intro q; unfold own_in at q; omega
theorem own_gap5 {z : Int} (h : (215 ≤ z ∧ z ≤ 215)) : ¬ own_in z := by
  intro q; unfold own_in at q; omega
theorem own_gap6 {z : Int} (h : (247 ≤ z ∧ z ≤ 247)) : ¬ own_in z := by
  intro q; unfold own_in at q; omega
theorem own_gap7 {z : Int} (h : (768 ≤ z ∧ z ≤ 879)) : ¬ own_in z := by
  intro q; unfold own_in at q; omega
theorem own_gap8 {z : Int} (h : (894 ≤ z ∧ z ≤ 894)) : ¬ own_in z := by
  intro q; unfold own_in at q; omega
theorem own_gap9 {z : Int} (h : (8192 ≤ z ∧ z ≤ 8203)) : ¬ own_in z := by
  intro q; unfold own_in at q; omega
theorem own_gap10 {z : Int} (h : (8206 ≤ z ∧ z ≤ 8303)) : ¬ own_in z := by
  intro q; unfold own_in at q; omega
theorem own_gap11 {z : Int} (h : (8592 ≤ z ∧ z ≤ 11263)) : ¬ own_in z := by
  intro q; unfold own_in at q; omega
theorem own_gap12 {z : Int} (h : (12272 ≤ z ∧ z ≤ 12288)) : ¬ own_in z := by
  intro q; unfold own_in at q; omega
theorem own_gap13 {z : Int} (h : (55296 ≤ z ∧ z ≤ 63743)) : ¬ own_in z := by
  intro q; unfold own_in at q; omega
theorem own_gap14 {z : Int} (h : (64976 ≤ z ∧ z ≤ 65007)) : ¬ own_in z := by
  intro q; unfold own_in at q; omega
theorem own_gap15 {z : Int} (h : (65534 ≤ z ∧ z ≤ 65534)) : ¬ own_in z := by
  intro q; unfold own_in at q; omega
theorem own_gap16 {z : Int} (h : (65535 ≤ z ∧ z ≤ 65535)) : ¬ own_in z := by
  intro q; unfold own_in at q; omega
theorem own_step {z a b : Int} (h : a < z) (g : ¬ (a + 1 ≤ z ∧ z ≤ b - 1)) : b ≤ z := by omega
theorem own_step2 {z a c b : Int} (h : a < z) (g : ¬ (a + 1 ≤ z ∧ z ≤ c)) (g2 : ¬ (c + 1 ≤ z ∧ z ≤ b - 1)) : b ≤ z := by omega
theorem own_cover {z : Int} (g0 : ¬ (z < 65)) (g1 : ¬ (983039 < z)) (g2 : ¬ (91 ≤ z ∧ z ≤ 94)) (g3 : ¬ (96 ≤ z ∧ z ≤ 96)) (g4 : ¬ (123 ≤ z ∧ z ≤ 191)) (g5 : ¬ (215 ≤ z ∧ z ≤ 215)) (g6 : ¬ (247 ≤ z ∧ z ≤ 247)) (g7 : ¬ (768 ≤ z ∧ z ≤ 879)) (g8 : ¬ (894 ≤ z ∧ z ≤ 894)) (g9 : ¬ (8192 ≤ z ∧ z ≤ 8203)) (g10 : ¬ (8206 ≤ z ∧ z ≤ 8303)) (g11 : ¬ (8592 ≤ z ∧ z ≤ 11263)) (g12 : ¬ (12272 ≤ z ∧ z ≤ 12288)) (g13 : ¬ (55296 ≤ z ∧ z ≤ 63743)) (g14 : ¬ (64976 ≤ z ∧ z ≤ 65007)) (g15 : ¬ (65534 ≤ z ∧ z ≤ 65534)) (g16 : ¬ (65535 ≤ z ∧ z ≤ 65535)) : own_in z := by
  have k0 : 65 ≤ z := Int.not_lt.mp g0
  by_cases u0 : z ≤ 90
  · exact Or.inl (⟨k0, u0⟩)
  have m0 : 90 < z := Int.not_le.mp u0
  have k1 : 95 ≤ z := own_step (a := 90) (b := 95) m0 g2
  by_cases u1 : z ≤ 95
  · exact Or.inr (Or.inl (⟨k1, u1⟩))
  have m1 : 95 < z := Int.not_le.mp u1
  have k2 : 97 ≤ z := own_step (a := 95) (b := 97) m1 g3
  by_cases u2 : z ≤ 122
  · exact Or.inr (Or.inr (Or.inl (⟨k2, u2⟩)))
  have m2 : 122 < z := Int.not_le.mp u2
  have k3 : 192 ≤ z := own_step (a := 122) (b := 192) m2 g4
  by_cases u3 : z ≤ 214
  · exact Or.inr (Or.inr (Or.inr (Or.inl (⟨k3, u3⟩))))
  have m3 : 214 < z := Int.not_le.mp u3
  have k4 : 216 ≤ z := own_step (a := 214) (b := 216) m3 g5
  by_cases u4 : z ≤ 246
  · exact Or.inr (Or.inr (Or.inr (Or.inr (Or.inl (⟨k4, u4⟩)))))
  have m4 : 246 < z := Int.not_le.mp u4
  have k5 : 248 ≤ z := own_step (a := 246) (b := 248) m4 g6
  by_cases u5 : z ≤ 767
  · exact Or.inr (Or.inr (Or.inr (Or.inr (Or.inr (Or.inl (⟨k5, u5⟩))))))
  have m5 : 767 < z := Int.not_le.mp u5
  have k6 : 880 ≤ z := own_step (a := 767) (b := 880) m5 g7
  by_cases u6 : z ≤ 893
  · exact Or.inr (Or.inr (Or.inr (Or.inr (Or.inr (Or.inr (Or.inl (⟨k6, u6⟩)))))))
  have m6 : 893 < z := Int.not_le.mp u6
  have k7 : 895 ≤ z := own_step (a := 893) (b := 895) m6 g8
  by_cases u7 : z ≤ 8191
  · exact Or.inr (Or.inr (Or.inr (Or.inr (Or.inr (Or.inr (Or.inr (Or.inl (⟨k7, u7⟩))))))))
  have m7 : 8191 < z := Int.not_le.mp u7
  have k8 : 8204 ≤ z := own_step (a := 8191) (b := 8204) m7 g9
  by_cases u8 : z ≤ 8205
  · exact Or.inr (Or.inr (Or.inr (Or.inr (Or.inr (Or.inr (Or.inr (Or.inr (Or.inl (⟨k8, u8⟩)))))))))
  have m8 : 8205 < z := Int.not_le.mp u8
  have k9 : 8304 ≤ z := own_step (a := 8205) (b := 8304) m8 g10
  by_cases u9 : z ≤ 8591
  · exact Or.inr (Or.inr (Or.inr (Or.inr (Or.inr (Or.inr (Or.inr (Or.inr (Or.inr (Or.inl (⟨k9, u9⟩))))))))))
  have m9 : 8591 < z := Int.not_le.mp u9
  have k10 : 11264 ≤ z := own_step (a := 8591) (b := 11264) m9 g11
  by_cases u10 : z ≤ 12271
  · exact Or.inr (Or.inr (Or.inr (Or.inr (Or.inr (Or.inr (Or.inr (Or.inr (Or.inr (Or.inr (Or.inl (⟨k10, u10⟩)))))))))))
  have m10 : 12271 < z := Int.not_le.mp u10
  have k11 : 12289 ≤ z := own_step (a := 12271) (b := 12289) m10 g12
  by_cases u11 : z ≤ 55295
  · exact Or.inr (Or.inr (Or.inr (Or.inr (Or.inr (Or.inr (Or.inr (Or.inr (Or.inr (Or.inr (Or.inr (Or.inl (⟨k11, u11⟩))))))))))))
  have m11 : 55295 < z := Int.not_le.mp u11
  have k12 : 63744 ≤ z := own_step (a := 55295) (b := 63744) m11 g13
  by_cases u12 : z ≤ 64975
  · exact Or.inr (Or.inr (Or.inr (Or.inr (Or.inr (Or.inr (Or.inr (Or.inr (Or.inr (Or.inr (Or.inr (Or.inr (Or.inl (⟨k12, u12⟩)))))))))))))
  have m12 : 64975 < z := Int.not_le.mp u12
  have k13 : 65008 ≤ z := own_step (a := 64975) (b := 65008) m12 g14
  by_cases u13 : z ≤ 65533
  · exact Or.inr (Or.inr (Or.inr (Or.inr (Or.inr (Or.inr (Or.inr (Or.inr (Or.inr (Or.inr (Or.inr (Or.inr (Or.inr (Or.inl (⟨k13, u13⟩))))))))))))))
  have m13 : 65533 < z := Int.not_le.mp u13
  have k14 : 65536 ≤ z := own_step2 (a := 65533) (c := 65534) (b := 65536) m13 g15 g16
  exact Or.inr (Or.inr (Or.inr (Or.inr (Or.inr (Or.inr (Or.inr (Or.inr (Or.inr (Or.inr (Or.inr (Or.inr (Or.inr (Or.inr (⟨k14, Int.not_lt.mp g1⟩))))))))))))))
theorem dr_0 : decode method_2_code 0 = .ok (.iload_n 0, 1) := by decide +kernel
theorem dr_1 : decode method_2_code 1 = .ok (.bipush 65, 2) := by decide +kernel
theorem dr_3 : decode method_2_code 3 = .ok (.if_icmp .ge 5, 3) := by decide +kernel
theorem dr_6 : decode method_2_code 6 = .ok (.iconst 0, 1) := by decide +kernel
theorem dr_7 : decode method_2_code 7 = .ok (.ireturn, 1) := by decide +kernel
theorem dr_8 : decode method_2_code 8 = .ok (.iload_n 0, 1) := by decide +kernel
theorem dr_9 : decode method_2_code 9 = .ok (.ldc 7, 2) := by decide +kernel
theorem dr_11 : decode method_2_code 11 = .ok (.if_icmp .le 5, 3) := by decide +kernel
theorem dr_14 : decode method_2_code 14 = .ok (.iconst 0, 1) := by decide +kernel
theorem dr_15 : decode method_2_code 15 = .ok (.ireturn, 1) := by decide +kernel
theorem dr_16 : decode method_2_code 16 = .ok (.iload_n 0, 1) := by decide +kernel
theorem dr_17 : decode method_2_code 17 = .ok (.bipush 91, 2) := by decide +kernel
theorem dr_19 : decode method_2_code 19 = .ok (.if_icmp .lt 11, 3) := by decide +kernel
theorem dr_22 : decode method_2_code 22 = .ok (.iload_n 0, 1) := by decide +kernel
theorem dr_23 : decode method_2_code 23 = .ok (.bipush 94, 2) := by decide +kernel
theorem dr_25 : decode method_2_code 25 = .ok (.if_icmp .gt 5, 3) := by decide +kernel
theorem dr_28 : decode method_2_code 28 = .ok (.iconst 0, 1) := by decide +kernel
theorem dr_29 : decode method_2_code 29 = .ok (.ireturn, 1) := by decide +kernel
theorem dr_30 : decode method_2_code 30 = .ok (.iload_n 0, 1) := by decide +kernel
theorem dr_31 : decode method_2_code 31 = .ok (.bipush 96, 2) := by decide +kernel
theorem dr_33 : decode method_2_code 33 = .ok (.if_icmp .ne 5, 3) := by decide +kernel
theorem dr_36 : decode method_2_code 36 = .ok (.iconst 0, 1) := by decide +kernel
theorem dr_37 : decode method_2_code 37 = .ok (.ireturn, 1) := by decide +kernel
theorem dr_38 : decode method_2_code 38 = .ok (.iload_n 0, 1) := by decide +kernel
theorem dr_39 : decode method_2_code 39 = .ok (.bipush 123, 2) := by decide +kernel
theorem dr_41 : decode method_2_code 41 = .ok (.if_icmp .lt 12, 3) := by decide +kernel
theorem dr_44 : decode method_2_code 44 = .ok (.iload_n 0, 1) := by decide +kernel
theorem dr_45 : decode method_2_code 45 = .ok (.sipush 191, 3) := by decide +kernel
theorem dr_48 : decode method_2_code 48 = .ok (.if_icmp .gt 5, 3) := by decide +kernel
theorem dr_51 : decode method_2_code 51 = .ok (.iconst 0, 1) := by decide +kernel
theorem dr_52 : decode method_2_code 52 = .ok (.ireturn, 1) := by decide +kernel
theorem dr_53 : decode method_2_code 53 = .ok (.iload_n 0, 1) := by decide +kernel
theorem dr_54 : decode method_2_code 54 = .ok (.sipush 215, 3) := by decide +kernel
theorem dr_57 : decode method_2_code 57 = .ok (.if_icmp .eq 10, 3) := by decide +kernel
theorem dr_60 : decode method_2_code 60 = .ok (.iload_n 0, 1) := by decide +kernel
theorem dr_61 : decode method_2_code 61 = .ok (.sipush 247, 3) := by decide +kernel
theorem dr_64 : decode method_2_code 64 = .ok (.if_icmp .ne 5, 3) := by decide +kernel
theorem dr_67 : decode method_2_code 67 = .ok (.iconst 0, 1) := by decide +kernel
theorem dr_68 : decode method_2_code 68 = .ok (.ireturn, 1) := by decide +kernel
theorem dr_69 : decode method_2_code 69 = .ok (.iload_n 0, 1) := by decide +kernel
theorem dr_70 : decode method_2_code 70 = .ok (.sipush 768, 3) := by decide +kernel
theorem dr_73 : decode method_2_code 73 = .ok (.if_icmp .lt 12, 3) := by decide +kernel
theorem dr_76 : decode method_2_code 76 = .ok (.iload_n 0, 1) := by decide +kernel
theorem dr_77 : decode method_2_code 77 = .ok (.sipush 879, 3) := by decide +kernel
theorem dr_80 : decode method_2_code 80 = .ok (.if_icmp .gt 5, 3) := by decide +kernel
theorem dr_83 : decode method_2_code 83 = .ok (.iconst 0, 1) := by decide +kernel
theorem dr_84 : decode method_2_code 84 = .ok (.ireturn, 1) := by decide +kernel
theorem dr_85 : decode method_2_code 85 = .ok (.iload_n 0, 1) := by decide +kernel
theorem dr_86 : decode method_2_code 86 = .ok (.sipush 894, 3) := by decide +kernel
theorem dr_89 : decode method_2_code 89 = .ok (.if_icmp .ne 5, 3) := by decide +kernel
theorem dr_92 : decode method_2_code 92 = .ok (.iconst 0, 1) := by decide +kernel
theorem dr_93 : decode method_2_code 93 = .ok (.ireturn, 1) := by decide +kernel
theorem dr_94 : decode method_2_code 94 = .ok (.iload_n 0, 1) := by decide +kernel
theorem dr_95 : decode method_2_code 95 = .ok (.sipush 8192, 3) := by decide +kernel
theorem dr_98 : decode method_2_code 98 = .ok (.if_icmp .lt 12, 3) := by decide +kernel
theorem dr_101 : decode method_2_code 101 = .ok (.iload_n 0, 1) := by decide +kernel
theorem dr_102 : decode method_2_code 102 = .ok (.sipush 8203, 3) := by decide +kernel
theorem dr_105 : decode method_2_code 105 = .ok (.if_icmp .gt 5, 3) := by decide +kernel
theorem dr_108 : decode method_2_code 108 = .ok (.iconst 0, 1) := by decide +kernel
theorem dr_109 : decode method_2_code 109 = .ok (.ireturn, 1) := by decide +kernel
theorem dr_110 : decode method_2_code 110 = .ok (.iload_n 0, 1) := by decide +kernel
theorem dr_111 : decode method_2_code 111 = .ok (.sipush 8206, 3) := by decide +kernel
theorem dr_114 : decode method_2_code 114 = .ok (.if_icmp .lt 12, 3) := by decide +kernel
theorem dr_117 : decode method_2_code 117 = .ok (.iload_n 0, 1) := by decide +kernel
theorem dr_118 : decode method_2_code 118 = .ok (.sipush 8303, 3) := by decide +kernel
theorem dr_121 : decode method_2_code 121 = .ok (.if_icmp .gt 5, 3) := by decide +kernel
theorem dr_124 : decode method_2_code 124 = .ok (.iconst 0, 1) := by decide +kernel
theorem dr_125 : decode method_2_code 125 = .ok (.ireturn, 1) := by decide +kernel
theorem dr_126 : decode method_2_code 126 = .ok (.iload_n 0, 1) := by decide +kernel
theorem dr_127 : decode method_2_code 127 = .ok (.sipush 8592, 3) := by decide +kernel
theorem dr_130 : decode method_2_code 130 = .ok (.if_icmp .lt 12, 3) := by decide +kernel
theorem dr_133 : decode method_2_code 133 = .ok (.iload_n 0, 1) := by decide +kernel
theorem dr_134 : decode method_2_code 134 = .ok (.sipush 11263, 3) := by decide +kernel
theorem dr_137 : decode method_2_code 137 = .ok (.if_icmp .gt 5, 3) := by decide +kernel
theorem dr_140 : decode method_2_code 140 = .ok (.iconst 0, 1) := by decide +kernel
theorem dr_141 : decode method_2_code 141 = .ok (.ireturn, 1) := by decide +kernel
theorem dr_142 : decode method_2_code 142 = .ok (.iload_n 0, 1) := by decide +kernel
theorem dr_143 : decode method_2_code 143 = .ok (.sipush 12272, 3) := by decide +kernel
theorem dr_146 : decode method_2_code 146 = .ok (.if_icmp .lt 12, 3) := by decide +kernel
theorem dr_149 : decode method_2_code 149 = .ok (.iload_n 0, 1) := by decide +kernel
theorem dr_150 : decode method_2_code 150 = .ok (.sipush 12288, 3) := by decide +kernel
theorem dr_153 : decode method_2_code 153 = .ok (.if_icmp .gt 5, 3) := by decide +kernel
theorem dr_156 : decode method_2_code 156 = .ok (.iconst 0, 1) := by decide +kernel
theorem dr_157 : decode method_2_code 157 = .ok (.ireturn, 1) := by decide +kernel
theorem dr_158 : decode method_2_code 158 = .ok (.iload_n 0, 1) := by decide +kernel
theorem dr_159 : decode method_2_code 159 = .ok (.ldc 8, 2) := by decide +kernel
theorem dr_161 : decode method_2_code 161 = .ok (.if_icmp .lt 11, 3) := by decide +kernel
theorem dr_164 : decode method_2_code 164 = .ok (.iload_n 0, 1) := by decide +kernel
theorem dr_165 : decode method_2_code 165 = .ok (.ldc 9, 2) := by decide +kernel
theorem dr_167 : decode method_2_code 167 = .ok (.if_icmp .gt 5, 3) := by decide +kernel
theorem dr_170 : decode method_2_code 170 = .ok (.iconst 0, 1) := by decide +kernel
theorem dr_171 : decode method_2_code 171 = .ok (.ireturn, 1) := by decide +kernel
theorem dr_172 : decode method_2_code 172 = .ok (.iload_n 0, 1) := by decide +kernel
theorem dr_173 : decode method_2_code 173 = .ok (.ldc 10, 2) := by decide +kernel
theorem dr_175 : decode method_2_code 175 = .ok (.if_icmp .lt 11, 3) := by decide +kernel
theorem dr_178 : decode method_2_code 178 = .ok (.iload_n 0, 1) := by decide +kernel
theorem dr_179 : decode method_2_code 179 = .ok (.ldc 11, 2) := by decide +kernel
theorem dr_181 : decode method_2_code 181 = .ok (.if_icmp .gt 5, 3) := by decide +kernel
theorem dr_184 : decode method_2_code 184 = .ok (.iconst 0, 1) := by decide +kernel
theorem dr_185 : decode method_2_code 185 = .ok (.ireturn, 1) := by decide +kernel
theorem dr_186 : decode method_2_code 186 = .ok (.iload_n 0, 1) := by decide +kernel
theorem dr_187 : decode method_2_code 187 = .ok (.ldc 12, 2) := by decide +kernel
theorem dr_189 : decode method_2_code 189 = .ok (.if_icmp .eq 9, 3) := by decide +kernel
theorem dr_192 : decode method_2_code 192 = .ok (.iload_n 0, 1) := by decide +kernel
theorem dr_193 : decode method_2_code 193 = .ok (.ldc 13, 2) := by decide +kernel
theorem dr_195 : decode method_2_code 195 = .ok (.if_icmp .ne 5, 3) := by decide +kernel
theorem dr_198 : decode method_2_code 198 = .ok (.iconst 0, 1) := by decide +kernel
theorem dr_199 : decode method_2_code 199 = .ok (.ireturn, 1) := by decide +kernel
theorem dr_200 : decode method_2_code 200 = .ok (.iconst 1, 1) := by decide +kernel
theorem dr_201 : decode method_2_code 201 = .ok (.ireturn, 1) := by decide +kernel
set_option maxRecDepth 65536 in
set_option maxHeartbeats 40000000 in
theorem c_ref (l : Launch) (Z : State) (a0 : Array Value) (hw : ∀ d ∈ tables_1, d.before a0 Z = true) (p1 : Int32) (h0 : Heap) (n0 : Nat) :
    Con l Z (⟨"com/example/upupa/upupa/xdm/XmlNamesIsNameStartCharacterPinLaw", "ref", "(I)Z"⟩ : MethodName) method_2_code 1 (some .boolean) ({ frames := 0, cells := 0, slots := 0, locals := 0 } : Room) #[(.int p1)] h0 n0 (fun v h => v = some (.int (if own_in p1.toInt then 1 else 0)) ∧ h = h0) := by
  refine Con.of (plainFor_of_name (by first | (simp [plainName, overriddenIn]; done) | decide +kernel)) (L0 := #[.val (.int p1)]) (fun m => by first | (simp [entryFrame, mkF, argsToLocals, Value.category]; done) | rfl) ?_
  intro p e s m below meth c T C S
  have J200 : ¬ (p1.toInt < 65) → ¬ (983039 < p1.toInt) → ¬ (91 ≤ p1.toInt ∧ p1.toInt ≤ 94) → ¬ (96 ≤ p1.toInt ∧ p1.toInt ≤ 96) → ¬ (123 ≤ p1.toInt ∧ p1.toInt ≤ 191) → ¬ (215 ≤ p1.toInt ∧ p1.toInt ≤ 215) → ¬ (247 ≤ p1.toInt ∧ p1.toInt ≤ 247) → ¬ (768 ≤ p1.toInt ∧ p1.toInt ≤ 879) → ¬ (894 ≤ p1.toInt ∧ p1.toInt ≤ 894) → ¬ (8192 ≤ p1.toInt ∧ p1.toInt ≤ 8203) → ¬ (8206 ≤ p1.toInt ∧ p1.toInt ≤ 8303) → ¬ (8592 ≤ p1.toInt ∧ p1.toInt ≤ 11263) → ¬ (12272 ≤ p1.toInt ∧ p1.toInt ≤ 12288) → ¬ (55296 ≤ p1.toInt ∧ p1.toInt ≤ 63743) → ¬ (64976 ≤ p1.toInt ∧ p1.toInt ≤ 65007) → ¬ (65534 ≤ p1.toInt ∧ p1.toInt ≤ 65534) → ¬ (65535 ≤ p1.toInt ∧ p1.toInt ≤ 65535) → Gl p e below s ({ frames := 0, cells := 0, slots := 0, locals := 0 } : Room) n0 (fun v h => v = some (.int (if own_in p1.toInt then 1 else 0)) ∧ h = h0) T (mkF m 200 #[.val (.int p1)] []) := by
    intro nn0 nn1 nn2 nn3 nn4 nn5 nn6 nn7 nn8 nn9 nn10 nn11 nn12 nn13 nn14 nn15 nn16
    refine g_iconst C S (1 : Int32) dr_200 (pc' := 201) rfl rfl ?_
    exact g_retZ C S dr_201 (by decide) (by decide) (by decide) (⟨by rw [if_pos (own_cover nn0 nn1 nn2 nn3 nn4 nn5 nn6 nn7 nn8 nn9 nn10 nn11 nn12 nn13 nn14 nn15 nn16)], rfl⟩)
  have J186 : ¬ (p1.toInt < 65) → ¬ (983039 < p1.toInt) → ¬ (91 ≤ p1.toInt ∧ p1.toInt ≤ 94) → ¬ (96 ≤ p1.toInt ∧ p1.toInt ≤ 96) → ¬ (123 ≤ p1.toInt ∧ p1.toInt ≤ 191) → ¬ (215 ≤ p1.toInt ∧ p1.toInt ≤ 215) → ¬ (247 ≤ p1.toInt ∧ p1.toInt ≤ 247) → ¬ (768 ≤ p1.toInt ∧ p1.toInt ≤ 879) → ¬ (894 ≤ p1.toInt ∧ p1.toInt ≤ 894) → ¬ (8192 ≤ p1.toInt ∧ p1.toInt ≤ 8203) → ¬ (8206 ≤ p1.toInt ∧ p1.toInt ≤ 8303) → ¬ (8592 ≤ p1.toInt ∧ p1.toInt ≤ 11263) → ¬ (12272 ≤ p1.toInt ∧ p1.toInt ≤ 12288) → ¬ (55296 ≤ p1.toInt ∧ p1.toInt ≤ 63743) → ¬ (64976 ≤ p1.toInt ∧ p1.toInt ≤ 65007) → Gl p e below s ({ frames := 0, cells := 0, slots := 0, locals := 0 } : Room) n0 (fun v h => v = some (.int (if own_in p1.toInt then 1 else 0)) ∧ h = h0) T (mkF m 186 #[.val (.int p1)] []) := by
    intro nn0 nn1 nn2 nn3 nn4 nn5 nn6 nn7 nn8 nn9 nn10 nn11 nn12 nn13 nn14
    refine g_iloadN C S dr_186 (pc' := 187) rfl rfl ?_
    refine g_ldc C S dr_187 (hw _ (List.mem_of_getElem? (i := 5) rfl)) (pc' := 189) rfl ?_
    refine g_icmp_eq C S dr_189 (pc' := 198) (pf := 192) (by decide) (by decide) rfl (fun hc189 => ?_) (fun hc189 => ?_)
    · refine g_iconst C S (0 : Int32) dr_198 (pc' := 199) rfl rfl ?_
      exact g_retZ C S dr_199 (by decide) (by decide) (by decide) (⟨by rw [if_neg (own_gap15 (⟨Int.le_of_eq (own_eq (n := 65534) (by decide) hc189).symm, Int.le_of_eq (own_eq (n := 65534) (by decide) hc189)⟩))], rfl⟩)
    · refine g_iloadN C S dr_192 (pc' := 193) rfl rfl ?_
      refine g_ldc C S dr_193 (hw _ (List.mem_of_getElem? (i := 21) rfl)) (pc' := 195) rfl ?_
      refine g_icmp_ne C S dr_195 (pc' := 200) (pf := 198) (by decide) (by decide) rfl (fun hc195 => ?_) (fun hc195 => ?_)
      · exact J200 nn0 nn1 nn2 nn3 nn4 nn5 nn6 nn7 nn8 nn9 nn10 nn11 nn12 nn13 nn14 (fun q => own_ne (n := 65534) (by decide) hc189 (Int.le_antisymm q.2 q.1)) (fun q => own_ne (n := 65535) (by decide) hc195 (Int.le_antisymm q.2 q.1))
      · refine g_iconst C S (0 : Int32) dr_198 (pc' := 199) rfl rfl ?_
        exact g_retZ C S dr_199 (by decide) (by decide) (by decide) (⟨by rw [if_neg (own_gap16 (⟨Int.le_of_eq (own_eq (n := 65535) (by decide) hc195).symm, Int.le_of_eq (own_eq (n := 65535) (by decide) hc195)⟩))], rfl⟩)
  have J172 : ¬ (p1.toInt < 65) → ¬ (983039 < p1.toInt) → ¬ (91 ≤ p1.toInt ∧ p1.toInt ≤ 94) → ¬ (96 ≤ p1.toInt ∧ p1.toInt ≤ 96) → ¬ (123 ≤ p1.toInt ∧ p1.toInt ≤ 191) → ¬ (215 ≤ p1.toInt ∧ p1.toInt ≤ 215) → ¬ (247 ≤ p1.toInt ∧ p1.toInt ≤ 247) → ¬ (768 ≤ p1.toInt ∧ p1.toInt ≤ 879) → ¬ (894 ≤ p1.toInt ∧ p1.toInt ≤ 894) → ¬ (8192 ≤ p1.toInt ∧ p1.toInt ≤ 8203) → ¬ (8206 ≤ p1.toInt ∧ p1.toInt ≤ 8303) → ¬ (8592 ≤ p1.toInt ∧ p1.toInt ≤ 11263) → ¬ (12272 ≤ p1.toInt ∧ p1.toInt ≤ 12288) → ¬ (55296 ≤ p1.toInt ∧ p1.toInt ≤ 63743) → Gl p e below s ({ frames := 0, cells := 0, slots := 0, locals := 0 } : Room) n0 (fun v h => v = some (.int (if own_in p1.toInt then 1 else 0)) ∧ h = h0) T (mkF m 172 #[.val (.int p1)] []) := by
    intro nn0 nn1 nn2 nn3 nn4 nn5 nn6 nn7 nn8 nn9 nn10 nn11 nn12 nn13
    refine g_iloadN C S dr_172 (pc' := 173) rfl rfl ?_
    refine g_ldc C S dr_173 (hw _ (List.mem_of_getElem? (i := 3) rfl)) (pc' := 175) rfl ?_
    refine g_icmp_lt C S dr_175 (pc' := 186) (pf := 178) (by decide) (by decide) rfl (fun hc175 => ?_) (fun hc175 => ?_)
    · exact J186 nn0 nn1 nn2 nn3 nn4 nn5 nn6 nn7 nn8 nn9 nn10 nn11 nn12 nn13 (fun q => absurd q.1 (Int.not_le.mpr (own_lt (by decide) hc175)))
    · refine g_iloadN C S dr_178 (pc' := 179) rfl rfl ?_
      refine g_ldc C S dr_179 (hw _ (List.mem_of_getElem? (i := 27) rfl)) (pc' := 181) rfl ?_
      refine g_icmp_gt C S dr_181 (pc' := 186) (pf := 184) (by decide) (by decide) rfl (fun hc181 => ?_) (fun hc181 => ?_)
      · exact J186 nn0 nn1 nn2 nn3 nn4 nn5 nn6 nn7 nn8 nn9 nn10 nn11 nn12 nn13 (fun q => absurd q.2 (Int.not_le.mpr (own_gt (by decide) hc181)))
      · refine g_iconst C S (0 : Int32) dr_184 (pc' := 185) rfl rfl ?_
        exact g_retZ C S dr_185 (by decide) (by decide) (by decide) (⟨by rw [if_neg (own_gap14 ⟨own_nlt (by decide) hc175, own_ngt (by decide) hc181⟩)], rfl⟩)
  have J158 : ¬ (p1.toInt < 65) → ¬ (983039 < p1.toInt) → ¬ (91 ≤ p1.toInt ∧ p1.toInt ≤ 94) → ¬ (96 ≤ p1.toInt ∧ p1.toInt ≤ 96) → ¬ (123 ≤ p1.toInt ∧ p1.toInt ≤ 191) → ¬ (215 ≤ p1.toInt ∧ p1.toInt ≤ 215) → ¬ (247 ≤ p1.toInt ∧ p1.toInt ≤ 247) → ¬ (768 ≤ p1.toInt ∧ p1.toInt ≤ 879) → ¬ (894 ≤ p1.toInt ∧ p1.toInt ≤ 894) → ¬ (8192 ≤ p1.toInt ∧ p1.toInt ≤ 8203) → ¬ (8206 ≤ p1.toInt ∧ p1.toInt ≤ 8303) → ¬ (8592 ≤ p1.toInt ∧ p1.toInt ≤ 11263) → ¬ (12272 ≤ p1.toInt ∧ p1.toInt ≤ 12288) → Gl p e below s ({ frames := 0, cells := 0, slots := 0, locals := 0 } : Room) n0 (fun v h => v = some (.int (if own_in p1.toInt then 1 else 0)) ∧ h = h0) T (mkF m 158 #[.val (.int p1)] []) := by
    intro nn0 nn1 nn2 nn3 nn4 nn5 nn6 nn7 nn8 nn9 nn10 nn11 nn12
    refine g_iloadN C S dr_158 (pc' := 159) rfl rfl ?_
    refine g_ldc C S dr_159 (hw _ (List.mem_of_getElem? (i := 1) rfl)) (pc' := 161) rfl ?_
    refine g_icmp_lt C S dr_161 (pc' := 172) (pf := 164) (by decide) (by decide) rfl (fun hc161 => ?_) (fun hc161 => ?_)
    · exact J172 nn0 nn1 nn2 nn3 nn4 nn5 nn6 nn7 nn8 nn9 nn10 nn11 nn12 (fun q => absurd q.1 (Int.not_le.mpr (own_lt (by decide) hc161)))
    · refine g_iloadN C S dr_164 (pc' := 165) rfl rfl ?_
      refine g_ldc C S dr_165 (hw _ (List.mem_of_getElem? (i := 26) rfl)) (pc' := 167) rfl ?_
      refine g_icmp_gt C S dr_167 (pc' := 172) (pf := 170) (by decide) (by decide) rfl (fun hc167 => ?_) (fun hc167 => ?_)
      · exact J172 nn0 nn1 nn2 nn3 nn4 nn5 nn6 nn7 nn8 nn9 nn10 nn11 nn12 (fun q => absurd q.2 (Int.not_le.mpr (own_gt (by decide) hc167)))
      · refine g_iconst C S (0 : Int32) dr_170 (pc' := 171) rfl rfl ?_
        exact g_retZ C S dr_171 (by decide) (by decide) (by decide) (⟨by rw [if_neg (own_gap13 ⟨own_nlt (by decide) hc161, own_ngt (by decide) hc167⟩)], rfl⟩)
  have J142 : ¬ (p1.toInt < 65) → ¬ (983039 < p1.toInt) → ¬ (91 ≤ p1.toInt ∧ p1.toInt ≤ 94) → ¬ (96 ≤ p1.toInt ∧ p1.toInt ≤ 96) → ¬ (123 ≤ p1.toInt ∧ p1.toInt ≤ 191) → ¬ (215 ≤ p1.toInt ∧ p1.toInt ≤ 215) → ¬ (247 ≤ p1.toInt ∧ p1.toInt ≤ 247) → ¬ (768 ≤ p1.toInt ∧ p1.toInt ≤ 879) → ¬ (894 ≤ p1.toInt ∧ p1.toInt ≤ 894) → ¬ (8192 ≤ p1.toInt ∧ p1.toInt ≤ 8203) → ¬ (8206 ≤ p1.toInt ∧ p1.toInt ≤ 8303) → ¬ (8592 ≤ p1.toInt ∧ p1.toInt ≤ 11263) → Gl p e below s ({ frames := 0, cells := 0, slots := 0, locals := 0 } : Room) n0 (fun v h => v = some (.int (if own_in p1.toInt then 1 else 0)) ∧ h = h0) T (mkF m 142 #[.val (.int p1)] []) := by
    intro nn0 nn1 nn2 nn3 nn4 nn5 nn6 nn7 nn8 nn9 nn10 nn11
    refine g_iloadN C S dr_142 (pc' := 143) rfl rfl ?_
    refine g_sipush C S (12272 : Int32) dr_143 (pc' := 146) rfl rfl ?_
    refine g_icmp_lt C S dr_146 (pc' := 158) (pf := 149) (by decide) (by decide) rfl (fun hc146 => ?_) (fun hc146 => ?_)
    · exact J158 nn0 nn1 nn2 nn3 nn4 nn5 nn6 nn7 nn8 nn9 nn10 nn11 (fun q => absurd q.1 (Int.not_le.mpr (own_lt (by decide) hc146)))
    · refine g_iloadN C S dr_149 (pc' := 150) rfl rfl ?_
      refine g_sipush C S (12288 : Int32) dr_150 (pc' := 153) rfl rfl ?_
      refine g_icmp_gt C S dr_153 (pc' := 158) (pf := 156) (by decide) (by decide) rfl (fun hc153 => ?_) (fun hc153 => ?_)
      · exact J158 nn0 nn1 nn2 nn3 nn4 nn5 nn6 nn7 nn8 nn9 nn10 nn11 (fun q => absurd q.2 (Int.not_le.mpr (own_gt (by decide) hc153)))
      · refine g_iconst C S (0 : Int32) dr_156 (pc' := 157) rfl rfl ?_
        exact g_retZ C S dr_157 (by decide) (by decide) (by decide) (⟨by rw [if_neg (own_gap12 ⟨own_nlt (by decide) hc146, own_ngt (by decide) hc153⟩)], rfl⟩)
  have J126 : ¬ (p1.toInt < 65) → ¬ (983039 < p1.toInt) → ¬ (91 ≤ p1.toInt ∧ p1.toInt ≤ 94) → ¬ (96 ≤ p1.toInt ∧ p1.toInt ≤ 96) → ¬ (123 ≤ p1.toInt ∧ p1.toInt ≤ 191) → ¬ (215 ≤ p1.toInt ∧ p1.toInt ≤ 215) → ¬ (247 ≤ p1.toInt ∧ p1.toInt ≤ 247) → ¬ (768 ≤ p1.toInt ∧ p1.toInt ≤ 879) → ¬ (894 ≤ p1.toInt ∧ p1.toInt ≤ 894) → ¬ (8192 ≤ p1.toInt ∧ p1.toInt ≤ 8203) → ¬ (8206 ≤ p1.toInt ∧ p1.toInt ≤ 8303) → Gl p e below s ({ frames := 0, cells := 0, slots := 0, locals := 0 } : Room) n0 (fun v h => v = some (.int (if own_in p1.toInt then 1 else 0)) ∧ h = h0) T (mkF m 126 #[.val (.int p1)] []) := by
    intro nn0 nn1 nn2 nn3 nn4 nn5 nn6 nn7 nn8 nn9 nn10
    refine g_iloadN C S dr_126 (pc' := 127) rfl rfl ?_
    refine g_sipush C S (8592 : Int32) dr_127 (pc' := 130) rfl rfl ?_
    refine g_icmp_lt C S dr_130 (pc' := 142) (pf := 133) (by decide) (by decide) rfl (fun hc130 => ?_) (fun hc130 => ?_)
    · exact J142 nn0 nn1 nn2 nn3 nn4 nn5 nn6 nn7 nn8 nn9 nn10 (fun q => absurd q.1 (Int.not_le.mpr (own_lt (by decide) hc130)))
    · refine g_iloadN C S dr_133 (pc' := 134) rfl rfl ?_
      refine g_sipush C S (11263 : Int32) dr_134 (pc' := 137) rfl rfl ?_
      refine g_icmp_gt C S dr_137 (pc' := 142) (pf := 140) (by decide) (by decide) rfl (fun hc137 => ?_) (fun hc137 => ?_)
      · exact J142 nn0 nn1 nn2 nn3 nn4 nn5 nn6 nn7 nn8 nn9 nn10 (fun q => absurd q.2 (Int.not_le.mpr (own_gt (by decide) hc137)))
      · refine g_iconst C S (0 : Int32) dr_140 (pc' := 141) rfl rfl ?_
        exact g_retZ C S dr_141 (by decide) (by decide) (by decide) (⟨by rw [if_neg (own_gap11 ⟨own_nlt (by decide) hc130, own_ngt (by decide) hc137⟩)], rfl⟩)
  have J110 : ¬ (p1.toInt < 65) → ¬ (983039 < p1.toInt) → ¬ (91 ≤ p1.toInt ∧ p1.toInt ≤ 94) → ¬ (96 ≤ p1.toInt ∧ p1.toInt ≤ 96) → ¬ (123 ≤ p1.toInt ∧ p1.toInt ≤ 191) → ¬ (215 ≤ p1.toInt ∧ p1.toInt ≤ 215) → ¬ (247 ≤ p1.toInt ∧ p1.toInt ≤ 247) → ¬ (768 ≤ p1.toInt ∧ p1.toInt ≤ 879) → ¬ (894 ≤ p1.toInt ∧ p1.toInt ≤ 894) → ¬ (8192 ≤ p1.toInt ∧ p1.toInt ≤ 8203) → Gl p e below s ({ frames := 0, cells := 0, slots := 0, locals := 0 } : Room) n0 (fun v h => v = some (.int (if own_in p1.toInt then 1 else 0)) ∧ h = h0) T (mkF m 110 #[.val (.int p1)] []) := by
    intro nn0 nn1 nn2 nn3 nn4 nn5 nn6 nn7 nn8 nn9
    refine g_iloadN C S dr_110 (pc' := 111) rfl rfl ?_
    refine g_sipush C S (8206 : Int32) dr_111 (pc' := 114) rfl rfl ?_
    refine g_icmp_lt C S dr_114 (pc' := 126) (pf := 117) (by decide) (by decide) rfl (fun hc114 => ?_) (fun hc114 => ?_)
    · exact J126 nn0 nn1 nn2 nn3 nn4 nn5 nn6 nn7 nn8 nn9 (fun q => absurd q.1 (Int.not_le.mpr (own_lt (by decide) hc114)))
    · refine g_iloadN C S dr_117 (pc' := 118) rfl rfl ?_
      refine g_sipush C S (8303 : Int32) dr_118 (pc' := 121) rfl rfl ?_
      refine g_icmp_gt C S dr_121 (pc' := 126) (pf := 124) (by decide) (by decide) rfl (fun hc121 => ?_) (fun hc121 => ?_)
      · exact J126 nn0 nn1 nn2 nn3 nn4 nn5 nn6 nn7 nn8 nn9 (fun q => absurd q.2 (Int.not_le.mpr (own_gt (by decide) hc121)))
      · refine g_iconst C S (0 : Int32) dr_124 (pc' := 125) rfl rfl ?_
        exact g_retZ C S dr_125 (by decide) (by decide) (by decide) (⟨by rw [if_neg (own_gap10 ⟨own_nlt (by decide) hc114, own_ngt (by decide) hc121⟩)], rfl⟩)
  have J94 : ¬ (p1.toInt < 65) → ¬ (983039 < p1.toInt) → ¬ (91 ≤ p1.toInt ∧ p1.toInt ≤ 94) → ¬ (96 ≤ p1.toInt ∧ p1.toInt ≤ 96) → ¬ (123 ≤ p1.toInt ∧ p1.toInt ≤ 191) → ¬ (215 ≤ p1.toInt ∧ p1.toInt ≤ 215) → ¬ (247 ≤ p1.toInt ∧ p1.toInt ≤ 247) → ¬ (768 ≤ p1.toInt ∧ p1.toInt ≤ 879) → ¬ (894 ≤ p1.toInt ∧ p1.toInt ≤ 894) → Gl p e below s ({ frames := 0, cells := 0, slots := 0, locals := 0 } : Room) n0 (fun v h => v = some (.int (if own_in p1.toInt then 1 else 0)) ∧ h = h0) T (mkF m 94 #[.val (.int p1)] []) := by
    intro nn0 nn1 nn2 nn3 nn4 nn5 nn6 nn7 nn8
    refine g_iloadN C S dr_94 (pc' := 95) rfl rfl ?_
    refine g_sipush C S (8192 : Int32) dr_95 (pc' := 98) rfl rfl ?_
    refine g_icmp_lt C S dr_98 (pc' := 110) (pf := 101) (by decide) (by decide) rfl (fun hc98 => ?_) (fun hc98 => ?_)
    · exact J110 nn0 nn1 nn2 nn3 nn4 nn5 nn6 nn7 nn8 (fun q => absurd q.1 (Int.not_le.mpr (own_lt (by decide) hc98)))
    · refine g_iloadN C S dr_101 (pc' := 102) rfl rfl ?_
      refine g_sipush C S (8203 : Int32) dr_102 (pc' := 105) rfl rfl ?_
      refine g_icmp_gt C S dr_105 (pc' := 110) (pf := 108) (by decide) (by decide) rfl (fun hc105 => ?_) (fun hc105 => ?_)
      · exact J110 nn0 nn1 nn2 nn3 nn4 nn5 nn6 nn7 nn8 (fun q => absurd q.2 (Int.not_le.mpr (own_gt (by decide) hc105)))
      · refine g_iconst C S (0 : Int32) dr_108 (pc' := 109) rfl rfl ?_
        exact g_retZ C S dr_109 (by decide) (by decide) (by decide) (⟨by rw [if_neg (own_gap9 ⟨own_nlt (by decide) hc98, own_ngt (by decide) hc105⟩)], rfl⟩)
  have J85 : ¬ (p1.toInt < 65) → ¬ (983039 < p1.toInt) → ¬ (91 ≤ p1.toInt ∧ p1.toInt ≤ 94) → ¬ (96 ≤ p1.toInt ∧ p1.toInt ≤ 96) → ¬ (123 ≤ p1.toInt ∧ p1.toInt ≤ 191) → ¬ (215 ≤ p1.toInt ∧ p1.toInt ≤ 215) → ¬ (247 ≤ p1.toInt ∧ p1.toInt ≤ 247) → ¬ (768 ≤ p1.toInt ∧ p1.toInt ≤ 879) → Gl p e below s ({ frames := 0, cells := 0, slots := 0, locals := 0 } : Room) n0 (fun v h => v = some (.int (if own_in p1.toInt then 1 else 0)) ∧ h = h0) T (mkF m 85 #[.val (.int p1)] []) := by
    intro nn0 nn1 nn2 nn3 nn4 nn5 nn6 nn7
    refine g_iloadN C S dr_85 (pc' := 86) rfl rfl ?_
    refine g_sipush C S (894 : Int32) dr_86 (pc' := 89) rfl rfl ?_
    refine g_icmp_ne C S dr_89 (pc' := 94) (pf := 92) (by decide) (by decide) rfl (fun hc89 => ?_) (fun hc89 => ?_)
    · exact J94 nn0 nn1 nn2 nn3 nn4 nn5 nn6 nn7 (fun q => own_ne (n := 894) (by decide) hc89 (Int.le_antisymm q.2 q.1))
    · refine g_iconst C S (0 : Int32) dr_92 (pc' := 93) rfl rfl ?_
      exact g_retZ C S dr_93 (by decide) (by decide) (by decide) (⟨by rw [if_neg (own_gap8 (⟨Int.le_of_eq (own_eq (n := 894) (by decide) hc89).symm, Int.le_of_eq (own_eq (n := 894) (by decide) hc89)⟩))], rfl⟩)
  have J69 : ¬ (p1.toInt < 65) → ¬ (983039 < p1.toInt) → ¬ (91 ≤ p1.toInt ∧ p1.toInt ≤ 94) → ¬ (96 ≤ p1.toInt ∧ p1.toInt ≤ 96) → ¬ (123 ≤ p1.toInt ∧ p1.toInt ≤ 191) → ¬ (215 ≤ p1.toInt ∧ p1.toInt ≤ 215) → ¬ (247 ≤ p1.toInt ∧ p1.toInt ≤ 247) → Gl p e below s ({ frames := 0, cells := 0, slots := 0, locals := 0 } : Room) n0 (fun v h => v = some (.int (if own_in p1.toInt then 1 else 0)) ∧ h = h0) T (mkF m 69 #[.val (.int p1)] []) := by
    intro nn0 nn1 nn2 nn3 nn4 nn5 nn6
    refine g_iloadN C S dr_69 (pc' := 70) rfl rfl ?_
    refine g_sipush C S (768 : Int32) dr_70 (pc' := 73) rfl rfl ?_
    refine g_icmp_lt C S dr_73 (pc' := 85) (pf := 76) (by decide) (by decide) rfl (fun hc73 => ?_) (fun hc73 => ?_)
    · exact J85 nn0 nn1 nn2 nn3 nn4 nn5 nn6 (fun q => absurd q.1 (Int.not_le.mpr (own_lt (by decide) hc73)))
    · refine g_iloadN C S dr_76 (pc' := 77) rfl rfl ?_
      refine g_sipush C S (879 : Int32) dr_77 (pc' := 80) rfl rfl ?_
      refine g_icmp_gt C S dr_80 (pc' := 85) (pf := 83) (by decide) (by decide) rfl (fun hc80 => ?_) (fun hc80 => ?_)
      · exact J85 nn0 nn1 nn2 nn3 nn4 nn5 nn6 (fun q => absurd q.2 (Int.not_le.mpr (own_gt (by decide) hc80)))
      · refine g_iconst C S (0 : Int32) dr_83 (pc' := 84) rfl rfl ?_
        exact g_retZ C S dr_84 (by decide) (by decide) (by decide) (⟨by rw [if_neg (own_gap7 ⟨own_nlt (by decide) hc73, own_ngt (by decide) hc80⟩)], rfl⟩)
  have J53 : ¬ (p1.toInt < 65) → ¬ (983039 < p1.toInt) → ¬ (91 ≤ p1.toInt ∧ p1.toInt ≤ 94) → ¬ (96 ≤ p1.toInt ∧ p1.toInt ≤ 96) → ¬ (123 ≤ p1.toInt ∧ p1.toInt ≤ 191) → Gl p e below s ({ frames := 0, cells := 0, slots := 0, locals := 0 } : Room) n0 (fun v h => v = some (.int (if own_in p1.toInt then 1 else 0)) ∧ h = h0) T (mkF m 53 #[.val (.int p1)] []) := by
    intro nn0 nn1 nn2 nn3 nn4
    refine g_iloadN C S dr_53 (pc' := 54) rfl rfl ?_
    refine g_sipush C S (215 : Int32) dr_54 (pc' := 57) rfl rfl ?_
    refine g_icmp_eq C S dr_57 (pc' := 67) (pf := 60) (by decide) (by decide) rfl (fun hc57 => ?_) (fun hc57 => ?_)
    · refine g_iconst C S (0 : Int32) dr_67 (pc' := 68) rfl rfl ?_
      exact g_retZ C S dr_68 (by decide) (by decide) (by decide) (⟨by rw [if_neg (own_gap5 (⟨Int.le_of_eq (own_eq (n := 215) (by decide) hc57).symm, Int.le_of_eq (own_eq (n := 215) (by decide) hc57)⟩))], rfl⟩)
    · refine g_iloadN C S dr_60 (pc' := 61) rfl rfl ?_
      refine g_sipush C S (247 : Int32) dr_61 (pc' := 64) rfl rfl ?_
      refine g_icmp_ne C S dr_64 (pc' := 69) (pf := 67) (by decide) (by decide) rfl (fun hc64 => ?_) (fun hc64 => ?_)
      · exact J69 nn0 nn1 nn2 nn3 nn4 (fun q => own_ne (n := 215) (by decide) hc57 (Int.le_antisymm q.2 q.1)) (fun q => own_ne (n := 247) (by decide) hc64 (Int.le_antisymm q.2 q.1))
      · refine g_iconst C S (0 : Int32) dr_67 (pc' := 68) rfl rfl ?_
        exact g_retZ C S dr_68 (by decide) (by decide) (by decide) (⟨by rw [if_neg (own_gap6 (⟨Int.le_of_eq (own_eq (n := 247) (by decide) hc64).symm, Int.le_of_eq (own_eq (n := 247) (by decide) hc64)⟩))], rfl⟩)
  have J38 : ¬ (p1.toInt < 65) → ¬ (983039 < p1.toInt) → ¬ (91 ≤ p1.toInt ∧ p1.toInt ≤ 94) → ¬ (96 ≤ p1.toInt ∧ p1.toInt ≤ 96) → Gl p e below s ({ frames := 0, cells := 0, slots := 0, locals := 0 } : Room) n0 (fun v h => v = some (.int (if own_in p1.toInt then 1 else 0)) ∧ h = h0) T (mkF m 38 #[.val (.int p1)] []) := by
    intro nn0 nn1 nn2 nn3
    refine g_iloadN C S dr_38 (pc' := 39) rfl rfl ?_
    refine g_bipush C S (123 : Int32) dr_39 (pc' := 41) rfl rfl ?_
    refine g_icmp_lt C S dr_41 (pc' := 53) (pf := 44) (by decide) (by decide) rfl (fun hc41 => ?_) (fun hc41 => ?_)
    · exact J53 nn0 nn1 nn2 nn3 (fun q => absurd q.1 (Int.not_le.mpr (own_lt (by decide) hc41)))
    · refine g_iloadN C S dr_44 (pc' := 45) rfl rfl ?_
      refine g_sipush C S (191 : Int32) dr_45 (pc' := 48) rfl rfl ?_
      refine g_icmp_gt C S dr_48 (pc' := 53) (pf := 51) (by decide) (by decide) rfl (fun hc48 => ?_) (fun hc48 => ?_)
      · exact J53 nn0 nn1 nn2 nn3 (fun q => absurd q.2 (Int.not_le.mpr (own_gt (by decide) hc48)))
      · refine g_iconst C S (0 : Int32) dr_51 (pc' := 52) rfl rfl ?_
        exact g_retZ C S dr_52 (by decide) (by decide) (by decide) (⟨by rw [if_neg (own_gap4 ⟨own_nlt (by decide) hc41, own_ngt (by decide) hc48⟩)], rfl⟩)
  have J30 : ¬ (p1.toInt < 65) → ¬ (983039 < p1.toInt) → ¬ (91 ≤ p1.toInt ∧ p1.toInt ≤ 94) → Gl p e below s ({ frames := 0, cells := 0, slots := 0, locals := 0 } : Room) n0 (fun v h => v = some (.int (if own_in p1.toInt then 1 else 0)) ∧ h = h0) T (mkF m 30 #[.val (.int p1)] []) := by
    intro nn0 nn1 nn2
    refine g_iloadN C S dr_30 (pc' := 31) rfl rfl ?_
    refine g_bipush C S (96 : Int32) dr_31 (pc' := 33) rfl rfl ?_
    refine g_icmp_ne C S dr_33 (pc' := 38) (pf := 36) (by decide) (by decide) rfl (fun hc33 => ?_) (fun hc33 => ?_)
    · exact J38 nn0 nn1 nn2 (fun q => own_ne (n := 96) (by decide) hc33 (Int.le_antisymm q.2 q.1))
    · refine g_iconst C S (0 : Int32) dr_36 (pc' := 37) rfl rfl ?_
      exact g_retZ C S dr_37 (by decide) (by decide) (by decide) (⟨by rw [if_neg (own_gap3 (⟨Int.le_of_eq (own_eq (n := 96) (by decide) hc33).symm, Int.le_of_eq (own_eq (n := 96) (by decide) hc33)⟩))], rfl⟩)
  have J16 : ¬ (p1.toInt < 65) → ¬ (983039 < p1.toInt) → Gl p e below s ({ frames := 0, cells := 0, slots := 0, locals := 0 } : Room) n0 (fun v h => v = some (.int (if own_in p1.toInt then 1 else 0)) ∧ h = h0) T (mkF m 16 #[.val (.int p1)] []) := by
    intro nn0 nn1
    refine g_iloadN C S dr_16 (pc' := 17) rfl rfl ?_
    refine g_bipush C S (91 : Int32) dr_17 (pc' := 19) rfl rfl ?_
    refine g_icmp_lt C S dr_19 (pc' := 30) (pf := 22) (by decide) (by decide) rfl (fun hc19 => ?_) (fun hc19 => ?_)
    · exact J30 nn0 nn1 (fun q => absurd q.1 (Int.not_le.mpr (own_lt (by decide) hc19)))
    · refine g_iloadN C S dr_22 (pc' := 23) rfl rfl ?_
      refine g_bipush C S (94 : Int32) dr_23 (pc' := 25) rfl rfl ?_
      refine g_icmp_gt C S dr_25 (pc' := 30) (pf := 28) (by decide) (by decide) rfl (fun hc25 => ?_) (fun hc25 => ?_)
      · exact J30 nn0 nn1 (fun q => absurd q.2 (Int.not_le.mpr (own_gt (by decide) hc25)))
      · refine g_iconst C S (0 : Int32) dr_28 (pc' := 29) rfl rfl ?_
        exact g_retZ C S dr_29 (by decide) (by decide) (by decide) (⟨by rw [if_neg (own_gap2 ⟨own_nlt (by decide) hc19, own_ngt (by decide) hc25⟩)], rfl⟩)
  have J8 : ¬ (p1.toInt < 65) → Gl p e below s ({ frames := 0, cells := 0, slots := 0, locals := 0 } : Room) n0 (fun v h => v = some (.int (if own_in p1.toInt then 1 else 0)) ∧ h = h0) T (mkF m 8 #[.val (.int p1)] []) := by
    intro nn0
    refine g_iloadN C S dr_8 (pc' := 9) rfl rfl ?_
    refine g_ldc C S dr_9 (hw _ (List.mem_of_getElem? (i := 20) rfl)) (pc' := 11) rfl ?_
    refine g_icmp_le C S dr_11 (pc' := 16) (pf := 14) (by decide) (by decide) rfl (fun hc11 => ?_) (fun hc11 => ?_)
    · exact J16 nn0 (Int.not_lt.mpr (own_ngt (by decide) hc11))
    · refine g_iconst C S (0 : Int32) dr_14 (pc' := 15) rfl rfl ?_
      exact g_retZ C S dr_15 (by decide) (by decide) (by decide) (⟨by rw [if_neg (own_gap1 (own_gt (by decide) hc11))], rfl⟩)
  refine g_iloadN C S dr_0 (pc' := 1) rfl rfl ?_
  refine g_bipush C S (65 : Int32) dr_1 (pc' := 3) rfl rfl ?_
  refine g_icmp_ge C S dr_3 (pc' := 8) (pf := 6) (by decide) (by decide) rfl (fun hc3 => ?_) (fun hc3 => ?_)
  · exact J8  (Int.not_lt.mpr (own_nlt (by decide) hc3))
  · refine g_iconst C S (0 : Int32) dr_6 (pc' := 7) rfl rfl ?_
    exact g_retZ C S dr_7 (by decide) (by decide) (by decide) (⟨by rw [if_neg (own_gap0 (own_lt (by decide) hc3))], rfl⟩)
theorem own_set {f : Nat → Value} {i : Nat} {x : Int32} (h : ∀ q, ∃ w, f q = .int w) : ∀ q, ∃ w, (fun q => if q = i then Value.int x else f q) q = .int w := fun q => by
  by_cases u : q = i
  · exact ⟨x, if_pos u⟩
  · obtain ⟨w, e⟩ := h q; exact ⟨w, (if_neg u).trans e⟩
theorem own_ix (p2 : Int32) : ∃ i : Nat, i < 30 ∧ ((p2 &&& (2147483647 : Int32)) % (30 : Int32)).toInt = (i : Int) := by
  have e1 : (p2 &&& (2147483647 : Int32)).toInt = p2.toInt % 2 ^ 31 := Jvm.Kit.i32_mask p2 _ (k := 31) (by decide) (by decide)
  have e2 : ((p2 &&& (2147483647 : Int32)) % (30 : Int32)).toInt = (p2 &&& (2147483647 : Int32)).toInt % 30 := Jvm.Kit.i32_rem_nonneg (by rw [e1]; omega)
  exact ⟨(((p2 &&& (2147483647 : Int32)) % (30 : Int32)).toInt).toNat, by omega, by omega⟩
theorem pd_0 : parseMethodDescriptor "(I)Z" = some ⟨[.int], some .boolean⟩ := by decide +kernel
set_option maxRecDepth 65536 in
set_option maxHeartbeats 40000000 in
theorem c_law (l : Launch) (Z : State) (a0 : Array Value) (hw : ∀ d ∈ tables_1, d.before a0 Z = true) (p1 : Int32) (p2 : Int32) (p3 : Int32) (h0 : Heap) (n0 : Nat) (Zn : n0 ≤ h0.size) :
    Con l Z x code maxLocals ret room_1 #[(.int p1), (.int p2), (.int p3)] h0 n0 (fun v h => v = some (.int 1)) := by
  refine Con.of (plainFor_of_name (by first | (simp [plainName, overriddenIn, x]; done) | decide +kernel)) (L0 := #[.val (.int p1), .val (.int p2), .val (.int p3), .unset, .unset, .unset, .unset]) (fun m => by first | (simp [entryFrame, mkF, argsToLocals, Value.category, maxLocals]; done) | rfl) ?_
  intro p e s m below meth c T C S
  refine g_bipush C S (30 : Int32) at_0 (pc' := 2) rfl rfl ?_
  refine g_newarray C S (N := 30) (cap := 30) at_2 (hw _ (List.mem_of_getElem? (i := 0) rfl)) (by decide) (by decide) (by decide) (by decide) (by decide) (pc' := 4) rfl (fun T1 h1 a1 S g1 E1 A_a1 => ?_)
  have ge_a1 : n0 ≤ a1 := ge_of g1 Zn
  have Zn := Nat.le_trans Zn E1.1
  have A_a1 : Ary Z h1 a1 .int 30 (fun _ => (.int (0 : Int32))) := A_a1
  have I_a : ∀ q : Nat, ∃ w, (fun _ => Value.int (0 : Int32)) q = .int w := fun _ => ⟨_, rfl⟩
  refine g_dup C S at_4 (pc' := 5) rfl rfl ?_
  refine g_iconst C S (0 : Int32) at_5 (pc' := 6) rfl rfl ?_
  refine g_bipush C S (65 : Int32) at_6 (pc' := 8) rfl rfl ?_
  refine g_iastore C S (i := 0) at_8 A_a1 (by decide) (by decide) ge_a1 (pc' := 9) rfl (fun T2 h2 S W2 B2 => ?_)
  have Zn := Nat.le_trans Zn (Nat.le_of_eq W2.size.symm)
  have A_a1 := B2
  have I_a := own_set (i := 0) (x := (65 : Int32)) I_a
  refine g_dup C S at_9 (pc' := 10) rfl rfl ?_
  refine g_iconst C S (1 : Int32) at_10 (pc' := 11) rfl rfl ?_
  refine g_bipush C S (91 : Int32) at_11 (pc' := 13) rfl rfl ?_
  refine g_iastore C S (i := 1) at_13 A_a1 (by decide) (by decide) ge_a1 (pc' := 14) rfl (fun T3 h3 S W3 B3 => ?_)
  have Zn := Nat.le_trans Zn (Nat.le_of_eq W3.size.symm)
  have A_a1 := B3
  have I_a := own_set (i := 1) (x := (91 : Int32)) I_a
  refine g_dup C S at_14 (pc' := 15) rfl rfl ?_
  refine g_iconst C S (2 : Int32) at_15 (pc' := 16) rfl rfl ?_
  refine g_bipush C S (95 : Int32) at_16 (pc' := 18) rfl rfl ?_
  refine g_iastore C S (i := 2) at_18 A_a1 (by decide) (by decide) ge_a1 (pc' := 19) rfl (fun T4 h4 S W4 B4 => ?_)
  have Zn := Nat.le_trans Zn (Nat.le_of_eq W4.size.symm)
  have A_a1 := B4
  have I_a := own_set (i := 2) (x := (95 : Int32)) I_a
  refine g_dup C S at_19 (pc' := 20) rfl rfl ?_
  refine g_iconst C S (3 : Int32) at_20 (pc' := 21) rfl rfl ?_
  refine g_bipush C S (96 : Int32) at_21 (pc' := 23) rfl rfl ?_
  refine g_iastore C S (i := 3) at_23 A_a1 (by decide) (by decide) ge_a1 (pc' := 24) rfl (fun T5 h5 S W5 B5 => ?_)
  have Zn := Nat.le_trans Zn (Nat.le_of_eq W5.size.symm)
  have A_a1 := B5
  have I_a := own_set (i := 3) (x := (96 : Int32)) I_a
  refine g_dup C S at_24 (pc' := 25) rfl rfl ?_
  refine g_iconst C S (4 : Int32) at_25 (pc' := 26) rfl rfl ?_
  refine g_bipush C S (97 : Int32) at_26 (pc' := 28) rfl rfl ?_
  refine g_iastore C S (i := 4) at_28 A_a1 (by decide) (by decide) ge_a1 (pc' := 29) rfl (fun T6 h6 S W6 B6 => ?_)
  have Zn := Nat.le_trans Zn (Nat.le_of_eq W6.size.symm)
  have A_a1 := B6
  have I_a := own_set (i := 4) (x := (97 : Int32)) I_a
  refine g_dup C S at_29 (pc' := 30) rfl rfl ?_
  refine g_iconst C S (5 : Int32) at_30 (pc' := 31) rfl rfl ?_
  refine g_bipush C S (123 : Int32) at_31 (pc' := 33) rfl rfl ?_
  refine g_iastore C S (i := 5) at_33 A_a1 (by decide) (by decide) ge_a1 (pc' := 34) rfl (fun T7 h7 S W7 B7 => ?_)
  have Zn := Nat.le_trans Zn (Nat.le_of_eq W7.size.symm)
  have A_a1 := B7
  have I_a := own_set (i := 5) (x := (123 : Int32)) I_a
  refine g_dup C S at_34 (pc' := 35) rfl rfl ?_
  refine g_bipush C S (6 : Int32) at_35 (pc' := 37) rfl rfl ?_
  refine g_sipush C S (192 : Int32) at_37 (pc' := 40) rfl rfl ?_
  refine g_iastore C S (i := 6) at_40 A_a1 (by decide) (by decide) ge_a1 (pc' := 41) rfl (fun T8 h8 S W8 B8 => ?_)
  have Zn := Nat.le_trans Zn (Nat.le_of_eq W8.size.symm)
  have A_a1 := B8
  have I_a := own_set (i := 6) (x := (192 : Int32)) I_a
  refine g_dup C S at_41 (pc' := 42) rfl rfl ?_
  refine g_bipush C S (7 : Int32) at_42 (pc' := 44) rfl rfl ?_
  refine g_sipush C S (215 : Int32) at_44 (pc' := 47) rfl rfl ?_
  refine g_iastore C S (i := 7) at_47 A_a1 (by decide) (by decide) ge_a1 (pc' := 48) rfl (fun T9 h9 S W9 B9 => ?_)
  have Zn := Nat.le_trans Zn (Nat.le_of_eq W9.size.symm)
  have A_a1 := B9
  have I_a := own_set (i := 7) (x := (215 : Int32)) I_a
  refine g_dup C S at_48 (pc' := 49) rfl rfl ?_
  refine g_bipush C S (8 : Int32) at_49 (pc' := 51) rfl rfl ?_
  refine g_sipush C S (216 : Int32) at_51 (pc' := 54) rfl rfl ?_
  refine g_iastore C S (i := 8) at_54 A_a1 (by decide) (by decide) ge_a1 (pc' := 55) rfl (fun T10 h10 S W10 B10 => ?_)
  have Zn := Nat.le_trans Zn (Nat.le_of_eq W10.size.symm)
  have A_a1 := B10
  have I_a := own_set (i := 8) (x := (216 : Int32)) I_a
  refine g_dup C S at_55 (pc' := 56) rfl rfl ?_
  refine g_bipush C S (9 : Int32) at_56 (pc' := 58) rfl rfl ?_
  refine g_sipush C S (247 : Int32) at_58 (pc' := 61) rfl rfl ?_
  refine g_iastore C S (i := 9) at_61 A_a1 (by decide) (by decide) ge_a1 (pc' := 62) rfl (fun T11 h11 S W11 B11 => ?_)
  have Zn := Nat.le_trans Zn (Nat.le_of_eq W11.size.symm)
  have A_a1 := B11
  have I_a := own_set (i := 9) (x := (247 : Int32)) I_a
  refine g_dup C S at_62 (pc' := 63) rfl rfl ?_
  refine g_bipush C S (10 : Int32) at_63 (pc' := 65) rfl rfl ?_
  refine g_sipush C S (248 : Int32) at_65 (pc' := 68) rfl rfl ?_
  refine g_iastore C S (i := 10) at_68 A_a1 (by decide) (by decide) ge_a1 (pc' := 69) rfl (fun T12 h12 S W12 B12 => ?_)
  have Zn := Nat.le_trans Zn (Nat.le_of_eq W12.size.symm)
  have A_a1 := B12
  have I_a := own_set (i := 10) (x := (248 : Int32)) I_a
  refine g_dup C S at_69 (pc' := 70) rfl rfl ?_
  refine g_bipush C S (11 : Int32) at_70 (pc' := 72) rfl rfl ?_
  refine g_sipush C S (768 : Int32) at_72 (pc' := 75) rfl rfl ?_
  refine g_iastore C S (i := 11) at_75 A_a1 (by decide) (by decide) ge_a1 (pc' := 76) rfl (fun T13 h13 S W13 B13 => ?_)
  have Zn := Nat.le_trans Zn (Nat.le_of_eq W13.size.symm)
  have A_a1 := B13
  have I_a := own_set (i := 11) (x := (768 : Int32)) I_a
  refine g_dup C S at_76 (pc' := 77) rfl rfl ?_
  refine g_bipush C S (12 : Int32) at_77 (pc' := 79) rfl rfl ?_
  refine g_sipush C S (880 : Int32) at_79 (pc' := 82) rfl rfl ?_
  refine g_iastore C S (i := 12) at_82 A_a1 (by decide) (by decide) ge_a1 (pc' := 83) rfl (fun T14 h14 S W14 B14 => ?_)
  have Zn := Nat.le_trans Zn (Nat.le_of_eq W14.size.symm)
  have A_a1 := B14
  have I_a := own_set (i := 12) (x := (880 : Int32)) I_a
  refine g_dup C S at_83 (pc' := 84) rfl rfl ?_
  refine g_bipush C S (13 : Int32) at_84 (pc' := 86) rfl rfl ?_
  refine g_sipush C S (894 : Int32) at_86 (pc' := 89) rfl rfl ?_
  refine g_iastore C S (i := 13) at_89 A_a1 (by decide) (by decide) ge_a1 (pc' := 90) rfl (fun T15 h15 S W15 B15 => ?_)
  have Zn := Nat.le_trans Zn (Nat.le_of_eq W15.size.symm)
  have A_a1 := B15
  have I_a := own_set (i := 13) (x := (894 : Int32)) I_a
  refine g_dup C S at_90 (pc' := 91) rfl rfl ?_
  refine g_bipush C S (14 : Int32) at_91 (pc' := 93) rfl rfl ?_
  refine g_sipush C S (895 : Int32) at_93 (pc' := 96) rfl rfl ?_
  refine g_iastore C S (i := 14) at_96 A_a1 (by decide) (by decide) ge_a1 (pc' := 97) rfl (fun T16 h16 S W16 B16 => ?_)
  have Zn := Nat.le_trans Zn (Nat.le_of_eq W16.size.symm)
  have A_a1 := B16
  have I_a := own_set (i := 14) (x := (895 : Int32)) I_a
  refine g_dup C S at_97 (pc' := 98) rfl rfl ?_
  refine g_bipush C S (15 : Int32) at_98 (pc' := 100) rfl rfl ?_
  refine g_sipush C S (8192 : Int32) at_100 (pc' := 103) rfl rfl ?_
  refine g_iastore C S (i := 15) at_103 A_a1 (by decide) (by decide) ge_a1 (pc' := 104) rfl (fun T17 h17 S W17 B17 => ?_)
  have Zn := Nat.le_trans Zn (Nat.le_of_eq W17.size.symm)
  have A_a1 := B17
  have I_a := own_set (i := 15) (x := (8192 : Int32)) I_a
  refine g_dup C S at_104 (pc' := 105) rfl rfl ?_
  refine g_bipush C S (16 : Int32) at_105 (pc' := 107) rfl rfl ?_
  refine g_sipush C S (8204 : Int32) at_107 (pc' := 110) rfl rfl ?_
  refine g_iastore C S (i := 16) at_110 A_a1 (by decide) (by decide) ge_a1 (pc' := 111) rfl (fun T18 h18 S W18 B18 => ?_)
  have Zn := Nat.le_trans Zn (Nat.le_of_eq W18.size.symm)
  have A_a1 := B18
  have I_a := own_set (i := 16) (x := (8204 : Int32)) I_a
  refine g_dup C S at_111 (pc' := 112) rfl rfl ?_
  refine g_bipush C S (17 : Int32) at_112 (pc' := 114) rfl rfl ?_
  refine g_sipush C S (8206 : Int32) at_114 (pc' := 117) rfl rfl ?_
  refine g_iastore C S (i := 17) at_117 A_a1 (by decide) (by decide) ge_a1 (pc' := 118) rfl (fun T19 h19 S W19 B19 => ?_)
  have Zn := Nat.le_trans Zn (Nat.le_of_eq W19.size.symm)
  have A_a1 := B19
  have I_a := own_set (i := 17) (x := (8206 : Int32)) I_a
  refine g_dup C S at_118 (pc' := 119) rfl rfl ?_
  refine g_bipush C S (18 : Int32) at_119 (pc' := 121) rfl rfl ?_
  refine g_sipush C S (8304 : Int32) at_121 (pc' := 124) rfl rfl ?_
  refine g_iastore C S (i := 18) at_124 A_a1 (by decide) (by decide) ge_a1 (pc' := 125) rfl (fun T20 h20 S W20 B20 => ?_)
  have Zn := Nat.le_trans Zn (Nat.le_of_eq W20.size.symm)
  have A_a1 := B20
  have I_a := own_set (i := 18) (x := (8304 : Int32)) I_a
  refine g_dup C S at_125 (pc' := 126) rfl rfl ?_
  refine g_bipush C S (19 : Int32) at_126 (pc' := 128) rfl rfl ?_
  refine g_sipush C S (8592 : Int32) at_128 (pc' := 131) rfl rfl ?_
  refine g_iastore C S (i := 19) at_131 A_a1 (by decide) (by decide) ge_a1 (pc' := 132) rfl (fun T21 h21 S W21 B21 => ?_)
  have Zn := Nat.le_trans Zn (Nat.le_of_eq W21.size.symm)
  have A_a1 := B21
  have I_a := own_set (i := 19) (x := (8592 : Int32)) I_a
  refine g_dup C S at_132 (pc' := 133) rfl rfl ?_
  refine g_bipush C S (20 : Int32) at_133 (pc' := 135) rfl rfl ?_
  refine g_sipush C S (11264 : Int32) at_135 (pc' := 138) rfl rfl ?_
  refine g_iastore C S (i := 20) at_138 A_a1 (by decide) (by decide) ge_a1 (pc' := 139) rfl (fun T22 h22 S W22 B22 => ?_)
  have Zn := Nat.le_trans Zn (Nat.le_of_eq W22.size.symm)
  have A_a1 := B22
  have I_a := own_set (i := 20) (x := (11264 : Int32)) I_a
  refine g_dup C S at_139 (pc' := 140) rfl rfl ?_
  refine g_bipush C S (21 : Int32) at_140 (pc' := 142) rfl rfl ?_
  refine g_sipush C S (12272 : Int32) at_142 (pc' := 145) rfl rfl ?_
  refine g_iastore C S (i := 21) at_145 A_a1 (by decide) (by decide) ge_a1 (pc' := 146) rfl (fun T23 h23 S W23 B23 => ?_)
  have Zn := Nat.le_trans Zn (Nat.le_of_eq W23.size.symm)
  have A_a1 := B23
  have I_a := own_set (i := 21) (x := (12272 : Int32)) I_a
  refine g_dup C S at_146 (pc' := 147) rfl rfl ?_
  refine g_bipush C S (22 : Int32) at_147 (pc' := 149) rfl rfl ?_
  refine g_sipush C S (12289 : Int32) at_149 (pc' := 152) rfl rfl ?_
  refine g_iastore C S (i := 22) at_152 A_a1 (by decide) (by decide) ge_a1 (pc' := 153) rfl (fun T24 h24 S W24 B24 => ?_)
  have Zn := Nat.le_trans Zn (Nat.le_of_eq W24.size.symm)
  have A_a1 := B24
  have I_a := own_set (i := 22) (x := (12289 : Int32)) I_a
  refine g_dup C S at_153 (pc' := 154) rfl rfl ?_
  refine g_bipush C S (23 : Int32) at_154 (pc' := 156) rfl rfl ?_
  refine g_ldc C S at_156 (hw _ (List.mem_of_getElem? (i := 1) rfl)) (pc' := 158) rfl ?_
  refine g_iastore C S (i := 23) at_158 A_a1 (by decide) (by decide) ge_a1 (pc' := 159) rfl (fun T25 h25 S W25 B25 => ?_)
  have Zn := Nat.le_trans Zn (Nat.le_of_eq W25.size.symm)
  have A_a1 := B25
  have I_a := own_set (i := 23) (x := (55296 : Int32)) I_a
  refine g_dup C S at_159 (pc' := 160) rfl rfl ?_
  refine g_bipush C S (24 : Int32) at_160 (pc' := 162) rfl rfl ?_
  refine g_ldc C S at_162 (hw _ (List.mem_of_getElem? (i := 2) rfl)) (pc' := 164) rfl ?_
  refine g_iastore C S (i := 24) at_164 A_a1 (by decide) (by decide) ge_a1 (pc' := 165) rfl (fun T26 h26 S W26 B26 => ?_)
  have Zn := Nat.le_trans Zn (Nat.le_of_eq W26.size.symm)
  have A_a1 := B26
  have I_a := own_set (i := 24) (x := (63744 : Int32)) I_a
  refine g_dup C S at_165 (pc' := 166) rfl rfl ?_
  refine g_bipush C S (25 : Int32) at_166 (pc' := 168) rfl rfl ?_
  refine g_ldc C S at_168 (hw _ (List.mem_of_getElem? (i := 3) rfl)) (pc' := 170) rfl ?_
  refine g_iastore C S (i := 25) at_170 A_a1 (by decide) (by decide) ge_a1 (pc' := 171) rfl (fun T27 h27 S W27 B27 => ?_)
  have Zn := Nat.le_trans Zn (Nat.le_of_eq W27.size.symm)
  have A_a1 := B27
  have I_a := own_set (i := 25) (x := (64976 : Int32)) I_a
  refine g_dup C S at_171 (pc' := 172) rfl rfl ?_
  refine g_bipush C S (26 : Int32) at_172 (pc' := 174) rfl rfl ?_
  refine g_ldc C S at_174 (hw _ (List.mem_of_getElem? (i := 4) rfl)) (pc' := 176) rfl ?_
  refine g_iastore C S (i := 26) at_176 A_a1 (by decide) (by decide) ge_a1 (pc' := 177) rfl (fun T28 h28 S W28 B28 => ?_)
  have Zn := Nat.le_trans Zn (Nat.le_of_eq W28.size.symm)
  have A_a1 := B28
  have I_a := own_set (i := 26) (x := (65008 : Int32)) I_a
  refine g_dup C S at_177 (pc' := 178) rfl rfl ?_
  refine g_bipush C S (27 : Int32) at_178 (pc' := 180) rfl rfl ?_
  refine g_ldc C S at_180 (hw _ (List.mem_of_getElem? (i := 5) rfl)) (pc' := 182) rfl ?_
  refine g_iastore C S (i := 27) at_182 A_a1 (by decide) (by decide) ge_a1 (pc' := 183) rfl (fun T29 h29 S W29 B29 => ?_)
  have Zn := Nat.le_trans Zn (Nat.le_of_eq W29.size.symm)
  have A_a1 := B29
  have I_a := own_set (i := 27) (x := (65534 : Int32)) I_a
  refine g_dup C S at_183 (pc' := 184) rfl rfl ?_
  refine g_bipush C S (28 : Int32) at_184 (pc' := 186) rfl rfl ?_
  refine g_ldc C S at_186 (hw _ (List.mem_of_getElem? (i := 6) rfl)) (pc' := 188) rfl ?_
  refine g_iastore C S (i := 28) at_188 A_a1 (by decide) (by decide) ge_a1 (pc' := 189) rfl (fun T30 h30 S W30 B30 => ?_)
  have Zn := Nat.le_trans Zn (Nat.le_of_eq W30.size.symm)
  have A_a1 := B30
  have I_a := own_set (i := 28) (x := (65536 : Int32)) I_a
  refine g_dup C S at_189 (pc' := 190) rfl rfl ?_
  refine g_bipush C S (29 : Int32) at_190 (pc' := 192) rfl rfl ?_
  refine g_ldc C S at_192 (hw _ (List.mem_of_getElem? (i := 7) rfl)) (pc' := 194) rfl ?_
  refine g_iastore C S (i := 29) at_194 A_a1 (by decide) (by decide) ge_a1 (pc' := 195) rfl (fun T31 h31 S W31 B31 => ?_)
  have Zn := Nat.le_trans Zn (Nat.le_of_eq W31.size.symm)
  have A_a1 := B31
  have I_a := own_set (i := 29) (x := (983040 : Int32)) I_a
  refine g_astoreN C S at_195 (pc' := 196) rfl rfl (L' := #[.val (.int p1), .val (.int p2), .val (.int p3), .val (.ref a1), .unset, .unset, .unset]) rfl ?_
  refine g_aloadN C S at_196 (pc' := 197) rfl rfl rfl ?_
  refine g_iloadN C S at_197 (pc' := 198) rfl rfl ?_
  refine g_ldc C S at_198 (hw _ (List.mem_of_getElem? (i := 8) rfl)) (pc' := 200) rfl ?_
  refine g_iand C S at_200 (pc' := 201) rfl ?_
  refine g_bipush C S (30 : Int32) at_201 (pc' := 203) rfl rfl ?_
  refine g_irem C S at_203 (pc' := 204) rfl (by decide) ?_
  obtain ⟨i, hi, hj⟩ := own_ix p2
  obtain ⟨z, hv⟩ := I_a i
  refine g_iaload C S (i := i) (v := (.int z)) at_204 A_a1 hj hi hv (pc' := 205) rfl ?_
  refine g_iloadN C S at_205 (pc' := 206) rfl rfl ?_
  refine g_iconst C S (3 : Int32) at_206 (pc' := 207) rfl rfl ?_
  refine g_iand C S at_207 (pc' := 208) rfl ?_
  refine g_iconst C S (2 : Int32) at_208 (pc' := 209) rfl rfl ?_
  refine g_isub C S at_209 (pc' := 210) rfl ?_
  refine g_iadd C S at_210 (pc' := 211) rfl ?_
  refine g_istore C S at_211 (pc' := 213) rfl (L' := #[.val (.int p1), .val (.int p2), .val (.int p3), .val (.ref a1), .val (.int (z + ((p3 &&& (3 : Int32)) - (2 : Int32)))), .unset, .unset]) rfl ?_
  refine g_iloadN C S at_213 (pc' := 214) rfl rfl ?_
  refine g_callS C S (rm := ({ frames := 0, cells := 0, slots := 0, locals := 0 } : Room)) (W := 0) at_214 (hw _ (List.mem_of_getElem? (i := 9) rfl)) (hw _ (List.mem_of_getElem? (i := 10) rfl)) (hw _ (List.mem_of_getElem? (i := 11) rfl)) (hw _ (List.mem_of_getElem? (i := 12) rfl)) (by decide) (c_isn l Z a0 hw p1 h31 n0) (argsL := [(.int p1)]) (r := []) rfl (lenOf pd_0 rfl) rfl (Nat.le_of_eq rfl) (by decide) (by decide) (by decide) (by decide) (pc' := 217) rfl (fun T32 h32 v32 q32 S => ?_)
  obtain ⟨rfl, e32⟩ := q32; rw [e32] at S
  show Gl p e below s _ n0 _ T32 (mkF m 217 #[.val (.int p1), .val (.int p2), .val (.int p3), .val (.ref a1), .val (.int (z + ((p3 &&& (3 : Int32)) - (2 : Int32)))), .unset, .unset] [(.int (if own_in (p1).toInt then 1 else 0))])
  refine g_iloadN C S at_217 (pc' := 218) rfl rfl ?_
  refine g_callS C S (rm := ({ frames := 0, cells := 0, slots := 0, locals := 0 } : Room)) (W := 1) at_218 (hw _ (List.mem_of_getElem? (i := 16) rfl)) (hw _ (List.mem_of_getElem? (i := 17) rfl)) (hw _ (List.mem_of_getElem? (i := 18) rfl)) (hw _ (List.mem_of_getElem? (i := 19) rfl)) (by decide) (c_ref l Z a0 hw p1 h31 n0) (argsL := [(.int p1)]) (r := [(.int (if own_in (p1).toInt then 1 else 0))]) rfl (lenOf pd_0 rfl) rfl (Nat.le_of_eq rfl) (by decide) (by decide) (by decide) (by decide) (pc' := 221) rfl (fun T33 h33 v33 q33 S => ?_)
  obtain ⟨rfl, e33⟩ := q33; rw [e33] at S
  show Gl p e below s _ n0 _ T33 (mkF m 221 #[.val (.int p1), .val (.int p2), .val (.int p3), .val (.ref a1), .val (.int (z + ((p3 &&& (3 : Int32)) - (2 : Int32)))), .unset, .unset] [(.int (if own_in (p1).toInt then 1 else 0)), (.int (if own_in (p1).toInt then 1 else 0))])
  refine g_icmp_ne C S at_221 (pc' := 228) (pf := 224) (by decide) (by decide) rfl (fun hc221 => absurd rfl hc221) (fun hc221 => ?_)
  refine g_iconst C S (1 : Int32) at_224 (pc' := 225) rfl rfl ?_
  refine g_goto C S at_225 (pc' := 229) (by decide) (by decide) ?_
  refine g_istore C S at_229 (pc' := 231) rfl (L' := #[.val (.int p1), .val (.int p2), .val (.int p3), .val (.ref a1), .val (.int (z + ((p3 &&& (3 : Int32)) - (2 : Int32)))), .val (.int (1 : Int32)), .unset]) rfl ?_
  refine g_iload C S at_231 (pc' := 233) rfl rfl ?_
  refine g_callS C S (rm := ({ frames := 0, cells := 0, slots := 0, locals := 0 } : Room)) (W := 0) at_233 (hw _ (List.mem_of_getElem? (i := 9) rfl)) (hw _ (List.mem_of_getElem? (i := 10) rfl)) (hw _ (List.mem_of_getElem? (i := 11) rfl)) (hw _ (List.mem_of_getElem? (i := 12) rfl)) (by decide) (c_isn l Z a0 hw (z + ((p3 &&& (3 : Int32)) - (2 : Int32))) h31 n0) (argsL := [(.int (z + ((p3 &&& (3 : Int32)) - (2 : Int32))))]) (r := []) rfl (lenOf pd_0 rfl) rfl (Nat.le_of_eq rfl) (by decide) (by decide) (by decide) (by decide) (pc' := 236) rfl (fun T34 h34 v34 q34 S => ?_)
  obtain ⟨rfl, e34⟩ := q34; rw [e34] at S
  show Gl p e below s _ n0 _ T34 (mkF m 236 #[.val (.int p1), .val (.int p2), .val (.int p3), .val (.ref a1), .val (.int (z + ((p3 &&& (3 : Int32)) - (2 : Int32)))), .val (.int (1 : Int32)), .unset] [(.int (if own_in ((z + ((p3 &&& (3 : Int32)) - (2 : Int32)))).toInt then 1 else 0))])
  refine g_iload C S at_236 (pc' := 238) rfl rfl ?_
  refine g_callS C S (rm := ({ frames := 0, cells := 0, slots := 0, locals := 0 } : Room)) (W := 1) at_238 (hw _ (List.mem_of_getElem? (i := 16) rfl)) (hw _ (List.mem_of_getElem? (i := 17) rfl)) (hw _ (List.mem_of_getElem? (i := 18) rfl)) (hw _ (List.mem_of_getElem? (i := 19) rfl)) (by decide) (c_ref l Z a0 hw (z + ((p3 &&& (3 : Int32)) - (2 : Int32))) h31 n0) (argsL := [(.int (z + ((p3 &&& (3 : Int32)) - (2 : Int32))))]) (r := [(.int (if own_in ((z + ((p3 &&& (3 : Int32)) - (2 : Int32)))).toInt then 1 else 0))]) rfl (lenOf pd_0 rfl) rfl (Nat.le_of_eq rfl) (by decide) (by decide) (by decide) (by decide) (pc' := 241) rfl (fun T35 h35 v35 q35 S => ?_)
  obtain ⟨rfl, e35⟩ := q35; rw [e35] at S
  show Gl p e below s _ n0 _ T35 (mkF m 241 #[.val (.int p1), .val (.int p2), .val (.int p3), .val (.ref a1), .val (.int (z + ((p3 &&& (3 : Int32)) - (2 : Int32)))), .val (.int (1 : Int32)), .unset] [(.int (if own_in ((z + ((p3 &&& (3 : Int32)) - (2 : Int32)))).toInt then 1 else 0)), (.int (if own_in ((z + ((p3 &&& (3 : Int32)) - (2 : Int32)))).toInt then 1 else 0))])
  refine g_icmp_ne C S at_241 (pc' := 248) (pf := 244) (by decide) (by decide) rfl (fun hc241 => absurd rfl hc241) (fun hc241 => ?_)
  refine g_iconst C S (1 : Int32) at_244 (pc' := 245) rfl rfl ?_
  refine g_goto C S at_245 (pc' := 249) (by decide) (by decide) ?_
  refine g_istore C S at_249 (pc' := 251) rfl (L' := #[.val (.int p1), .val (.int p2), .val (.int p3), .val (.ref a1), .val (.int (z + ((p3 &&& (3 : Int32)) - (2 : Int32)))), .val (.int (1 : Int32)), .val (.int (1 : Int32))]) rfl ?_
  refine g_iload C S at_251 (pc' := 253) rfl rfl ?_
  refine g_if_eq C S at_253 (pc' := 265) (pf := 256) (by decide) (by decide) rfl (fun hc253 => absurd hc253 (by decide)) (fun hc253 => ?_)
  refine g_iload C S at_256 (pc' := 258) rfl rfl ?_
  refine g_if_eq C S at_258 (pc' := 265) (pf := 261) (by decide) (by decide) rfl (fun hc258 => absurd hc258 (by decide)) (fun hc258 => ?_)
  refine g_iconst C S (1 : Int32) at_261 (pc' := 262) rfl rfl ?_
  refine g_goto C S at_262 (pc' := 266) (by decide) (by decide) ?_
  exact g_retZ C S at_266 (by decide) (by decide) (by decide) (rfl)
set_option maxRecDepth 65536 in
set_option maxHeartbeats 40000000 in
theorem comes_1 {Post : Tables → Env → Array Value → State → Outcome → State → Prop} (hpost : ∀ tb e args s v u, (limb_1_1.after args s (.returned v) u = true ∧ limb_1_2.after args s (.returned v) u = true ∧ True) → FrameEnd s (.returned v) u (Jvm.fieldLocs frame_1_writes args s ++ Jvm.arrayLocs frame_1_arrays args s ++ Jvm.staticLocs frame_1_statics s) 16 128 → Post tb e args s (.returned v) u) :
    ArmFor flags0 classFile x code maxLocals ret World_1 tables_1 room_1 Calls_1 rest_1 Pre_1 Post := by
  intro l hfl _ _ p e ha hc hk s m args below hf hA hF happ hP
  obtain ⟨hcalls, hrest, hpre⟩ := hP
  obtain ⟨-, -, -, hnamed, -, -, -, hat⟩ := (Spec.applies_iff hf).mp happ
  obtain ⟨hg, hn⟩ := and_e (Cond.before_iff.mp (show (Jvm.Cond.and given_1 narrow_1).before args s = true from hpre))
  obtain ⟨hcount, hg0⟩ := and_e hg
  obtain ⟨ha0, hg1⟩ := and_e hg0
  obtain ⟨ha1, hg2⟩ := and_e hg1
  have ha2 := hg2
  obtain ⟨w0, w1, w2, rfl⟩ : ∃ w0 w1 w2 : Value, args = #[w0, w1, w2] := by
    have hs : args.size = 3 := by simpa [Cond.value, given_1] using hcount
    obtain ⟨L⟩ := args
    match L, hs with
    | [w0, w1, w2], _ => exact ⟨w0, w1, w2, rfl⟩
  have hw := fun d (hd : d ∈ tables_1) => atoms_spec (ws := Jvm.Cond.code x code maxLocals ret :: tables_1) hat d (List.mem_cons_of_mem _ hd)
  obtain ⟨i0, ei0⟩ := is_v ha0
  obtain rfl : w0 = (.int i0) := Option.some.inj ei0
  obtain ⟨i1, ei1⟩ := is_v ha1
  obtain rfl : w1 = (.int i1) := Option.some.inj ei1
  obtain ⟨i2, ei2⟩ := is_v ha2
  obtain rfl : w2 = (.int i2) := Option.some.inj ei2
  obtain ⟨n, o, h1, h2, h3, _, L, rfl, ⟨rfl, N⟩, hq⟩ := c_law l s _ hw i0 i1 i2 s.heap s.heap.size (Nat.le_refl _) tables_1 p e ha hc hk s m _ below hf ((Spec.applies_iff_loose hf).mp happ).1 ⟨rfl, State.Warmed39.refl s, rfl⟩ trivial
  refine ⟨n, _, h1, h2, h3, hpost _ _ _ _ _ _ ⟨Cond.after_iff.mpr rfl, Cond.after_iff.mpr (eq_i res_at (Term.int_eval (1)) rfl), trivial⟩ ⟨hq.1, hq.2.1, (hq.2.2.sift fun y hy => Or.inr (N y hy)).mono (by decide) (by decide)⟩⟩
theorem main_1_1 : Claimed_1_1 := comes_1 fun _ _ _ _ _ _ h hF => ⟨h.1, hF⟩
theorem main_1_2 : Claimed_1_2 := comes_1 fun _ _ _ _ _ _ h hF => ⟨h.2.1, hF⟩
end Jvm.Pilot.@@N@@
namespace Jvm.Pilot.@@N@@
open Jvm Jvm.ClassFile Sem Op Lib Jvm.Free Jvm.Stand Jvm.Pilot.@@N@@.Jvm.D
/-! MADE BY PROGRAM (witnessworld.py) out of the Statement's table words and the real class files: 9 classes; the members and pool entries that the words name. The judged class is class 1, her method 2. -/
namespace start1
open Jvm.ClassFile
def u (s : String) : CpInfo := .utf8 (stringToUtf16 s)
/-- a pool by its gaps: so many unusable entries, then the entry; so many at the end -/
def gap : Nat → List CpInfo → List CpInfo
  | 0, r => r
  | n + 1, r => .unusable :: gap n r
def poolList (es : List (Nat × CpInfo)) (last : Nat) : List CpInfo := es.foldr (fun e r => gap e.1 (e.2 :: r)) (gap last [])
def pool (es : List (Nat × CpInfo)) (last : Nat) : Array CpInfo := ⟨poolList es last⟩
def fileOf (pool : Array CpInfo) (this : Nat) (attrs : Array Attribute := #[]) (ms : Array MethodInfo := #[]) (fl : Nat := 33) (sup : Nat := 0) (ifs : Array Nat := #[]) (fds : Array FieldInfo := #[]) : ClassFile where
  minorVersion := 0
  majorVersion := 65
  constantPool := pool
  accessFlags := fl
  thisClass := this
  superClass := sup
  interfaces := ifs
  fields := fds
  methods := ms
  attributes := attrs
def plain (name : String) (sup : Option ClassId) : Class where
  name := name
  kind := .ordinary
  loader := none
  accessFlags := 33
  super := sup
  interfaces := #[]
  cf := none
  fields := #[]
  methods := #[]
  instanceTypes := #[]
  staticTypes := #[]
  resolved := #[]
  callSites := []
  init := .initialized
  statics := none
  mirror := none

def pool0 : Array CpInfo := pool [(5, u "<init>"), (0, u "()V"), (1, .class_ 10), (1, u "java/lang/Object")] 113

def k0m0 : Method := { name := "<init>", desc := "()V", sig := { parameters := [], returnType := none }, accessFlags := 1, code := none }
/-- java/lang/Object -/
def k0 : Class := { plain "java/lang/Object" none with
  accessFlags := 33
  interfaces := #[]
  cf := some (fileOf pool0 8 #[] #[{ accessFlags := 1, nameIndex := 5, descriptorIndex := 6, attributes := #[] }] 33 0 #[] #[])
  fields := #[]
  methods := #[k0m0]
  instanceTypes := #[]
  staticTypes := #[]
  resolved := Array.replicate 124 none
  statics := none }

def pool1 : Array CpInfo := pool [(2, .class_ 4), (1, u "java/lang/Object"), (0, u "<init>"), (0, u "()V"), (0, .integer 983039), (0, .integer 55296), (0, .integer 63743), (0, .integer 64976), (0, .integer 65007), (0, .integer 65534), (0, .integer 65535), (0, .integer 63744), (0, .integer 65008), (0, .integer 65536), (0, .integer 983040), (0, .integer 2147483647), (0, .methodref 20 21), (0, .class_ 22), (0, .nameAndType 23 24), (0, u "com/example/upupa/upupa/xdm/XmlNames"), (0, u "isNameStartCharacter"), (0, u "(I)Z"), (0, .methodref 26 27), (0, .class_ 28), (0, .nameAndType 29 24), (0, u "com/example/upupa/upupa/xdm/XmlNamesIsNameStartCharacterPinLaw"), (0, u "ref"), (3, u "law"), (0, u "(III)Z")] 4

def k1m0 : Method := { name := "<init>", desc := "()V", sig := { parameters := [], returnType := none }, accessFlags := 2, code := none }
def k1c1 : Code := { maxStack := 2, maxLocals := 1, code := method_2_code, exceptionTable := #[], attributes := #[] }
def k1m1 : Method := { name := "ref", desc := "(I)Z", sig := { parameters := [.int], returnType := some .boolean }, accessFlags := 10, code := some k1c1 }
def k1c2 : Code := { maxStack := 4, maxLocals := 7, code := code, exceptionTable := #[], attributes := #[] }
def k1m2 : Method := { name := "law", desc := "(III)Z", sig := { parameters := [.int, .int, .int], returnType := some .boolean }, accessFlags := 9, code := some k1c2 }
/-- com/example/upupa/upupa/xdm/XmlNamesIsNameStartCharacterPinLaw -/
def k1 : Class := { plain "com/example/upupa/upupa/xdm/XmlNamesIsNameStartCharacterPinLaw" (some 0) with
  accessFlags := 49
  interfaces := #[]
  cf := some (fileOf pool1 26 #[] #[{ accessFlags := 2, nameIndex := 5, descriptorIndex := 6, attributes := #[] }, { accessFlags := 10, nameIndex := 29, descriptorIndex := 24, attributes := #[] }, { accessFlags := 9, nameIndex := 33, descriptorIndex := 34, attributes := #[] }] 49 2 #[] #[])
  fields := #[]
  methods := #[k1m0, k1m1, k1m2]
  instanceTypes := #[]
  staticTypes := #[]
  resolved := Array.replicate 39 none
  statics := none }

def pool2 : Array CpInfo := pool [(2, .class_ 4), (1, u "java/lang/Object"), (0, u "<init>"), (0, u "()V"), (11, .class_ 20), (1, u "com/example/upupa/upupa/xdm/XmlNames"), (0, u "isNameStartCharacter"), (0, u "(I)Z"), (16, .integer 55295), (0, .integer 63744), (0, .integer 64975), (0, .integer 65008), (0, .integer 65533), (0, .integer 65536), (0, .integer 983039)] 36

def k2m0 : Method := { name := "<init>", desc := "()V", sig := { parameters := [], returnType := none }, accessFlags := 2, code := none }
def k2c1 : Code := { maxStack := 2, maxLocals := 1, code := prog_117_method_5_code, exceptionTable := #[], attributes := #[] }
def k2m1 : Method := { name := "isNameStartCharacter", desc := "(I)Z", sig := { parameters := [.int], returnType := some .boolean }, accessFlags := 9, code := some k2c1 }
/-- com/example/upupa/upupa/xdm/XmlNames -/
def k2 : Class := { plain "com/example/upupa/upupa/xdm/XmlNames" (some 0) with
  accessFlags := 49
  interfaces := #[]
  cf := some (fileOf pool2 18 #[] #[{ accessFlags := 2, nameIndex := 5, descriptorIndex := 6, attributes := #[] }, { accessFlags := 9, nameIndex := 21, descriptorIndex := 22, attributes := #[] }] 49 2 #[] #[])
  fields := #[]
  methods := #[k2m0, k2m1]
  instanceTypes := #[]
  staticTypes := #[]
  resolved := Array.replicate 82 none
  statics := none }

def pool3 : Array CpInfo := pool [(1, u "java/lang/Cloneable"), (0, .class_ 1), (0, u "java/lang/Object"), (0, .class_ 3)] 3

/-- java/lang/Cloneable -/
def k3 : Class := { plain "java/lang/Cloneable" (some 0) with
  accessFlags := 1537
  interfaces := #[]
  cf := some (fileOf pool3 2 #[] #[] 1537 4 #[] #[])
  fields := #[]
  methods := #[]
  instanceTypes := #[]
  staticTypes := #[]
  resolved := Array.replicate 8 none
  statics := none }

def pool4 : Array CpInfo := pool [(1, u "java/io/Serializable"), (0, .class_ 1), (0, u "java/lang/Object"), (0, .class_ 3)] 3

/-- java/io/Serializable -/
def k4 : Class := { plain "java/io/Serializable" (some 0) with
  accessFlags := 1537
  interfaces := #[]
  cf := some (fileOf pool4 2 #[] #[] 1537 4 #[] #[])
  fields := #[]
  methods := #[]
  instanceTypes := #[]
  staticTypes := #[]
  resolved := Array.replicate 8 none
  statics := none }

/-- the primitive byte -/
def k5 : Class := { plain "byte" none with kind := .primitive 'B', accessFlags := 0x411 }
/-- [B -/
def k6 : Class := { plain "[B" (some 0) with kind := .array 5 .byte, interfaces := #[3, 4], accessFlags := 1041 }

/-- the primitive int -/
def k7 : Class := { plain "int" none with kind := .primitive 'I', accessFlags := 0x411 }
/-- [I -/
def k8 : Class := { plain "[I" (some 0) with kind := .array 7 .int, interfaces := #[3, 4], accessFlags := 1041 }

def heap : Heap := #[]
def classes : Array Class := #[k0, k1, k2, k3, k4, k5, k6, k7, k8]
def interned : List (Array UInt16 × Addr) := []
def slotsUsed : Nat := 0
def theMethod : MethodId := ⟨1, 2⟩
def args0 : Array Value := #[.int 5, .int 300, .int 7]
def aboutOver (below : List Frame) : State where
  vm := { classes := classes, interned := interned.toArray }
  heap := heap
  slotsUsed := slotsUsed
  threads := #[{ frames := .invoking theMethod args0 :: below }]
def below0 : List Frame := [.native { method := ⟨0, 0⟩, args := #[] }]
def about1 : State := aboutOver below0
def p0 : Program := .bare "" "" ""
def e0 : Env := launch0.env 0 0 0
theorem w_frames : about1.frames = Frame.invoking theMethod args0 :: below0 := rfl
set_option maxRecDepth 65536 in
theorem w_args : argsFit about1.vm theMethod args0 = true := by decide +kernel
set_option maxRecDepth 65536 in
theorem w_heap : heapFits about1 = true := by decide +kernel
set_option maxRecDepth 65536 in
theorem w_runnable : about1.curStatus? = some .runnable := by decide +kernel
set_option maxRecDepth 65536 in
theorem w_alone : about1.alone = true := by decide +kernel
set_option maxRecDepth 65536 in
theorem w_named : about1.methodNamed? x = some theMethod := by decide +kernel
set_option maxRecDepth 65536 in
theorem w_hears : about1.hears theMethod below0 = true := by decide +kernel
set_option maxRecDepth 65536 in
theorem w_ripe : about1.ripe theMethod args0 below0 = true := by decide +kernel
theorem w_running : about1.status = .running := rfl
set_option maxRecDepth 65536 in
theorem w_room : about1.hasRoom e0.platform room_1 = true :=
  launch0.hasRoom_least _ room_1 (by decide +kernel) (by decide +kernel) (by decide +kernel) (by decide +kernel) (by decide +kernel) (by decide +kernel)
theorem allAtoms_all (ts : List Jvm.Cond) (a : Array Jvm.Value) (st : Jvm.State) : (allAtoms ts).before a st = ts.all (fun c => c.before a st) := by
  induction ts with
  | nil => rfl
  | cons c t ih =>
    show (Jvm.Cond.and c (allAtoms t)).before a st = _
    rw [Jvm.Cond.before_and, ih, List.all_cons]
def words1 : List Jvm.Cond := Jvm.Cond.code x code maxLocals ret :: tables_1
/-- a 'code' word, met by the world's own term for the bytes: nothing is compared byte by byte -/
theorem code_word {y : MethodName} {bytes : ByteArray} {mx : Nat} {rt : Option FieldType} {a : Array Value} {s : State} {m : MethodId} {meth : Method} {c : Code} (h1 : s.methodNamed? y = some m) (h2 : s.vm.method? m = some meth) (h3 : meth.code = some c) (h4 : c.code = bytes)
    (h5 : (c.maxLocals == mx && c.exceptionTable.isEmpty && decide (c.maxStack ≤ mostOperands) && decide (meth.sig.returnType = rt) && !meth.locks && decide (parseMethodDescriptor y.desc = some meth.sig)) = true) : (Jvm.Cond.code y bytes mx rt).before a s = true := by
  simp only [Bool.and_eq_true, beq_iff_eq, Bool.not_eq_true', decide_eq_true_eq] at h5
  obtain ⟨⟨⟨⟨⟨g1, g2⟩, g3⟩, g4⟩, g5⟩, g6⟩ := h5
  simp [Cond.before, Cond.holds, Cond.value, h1, h2, h3, h4, g1, g2, g3, g4, g5, g6]
def isCode : Jvm.Cond → Bool
  | .code _ _ _ _ => true
  | _ => false
theorem all_split {L : List Jvm.Cond} {P : Jvm.Cond → Bool} (h1 : L.all (fun c => isCode c || P c) = true) (h2 : ∀ c ∈ L.filter isCode, P c = true) : L.all P = true := by
  refine List.all_eq_true.mpr fun c hc => ?_
  have h := List.all_eq_true.mp h1 c hc
  rcases Bool.eq_false_or_eq_true (isCode c) with hi | hi
  · exact h2 c (List.mem_filter.mpr ⟨hc, hi⟩)
  · simpa [hi] using h
set_option maxRecDepth 65536 in
theorem w_c0 : (Jvm.Cond.code x code maxLocals ret).before args0 about1 = true := code_word (m := ⟨1, 2⟩) (meth := k1m2) (c := k1c2) (by decide +kernel) rfl rfl rfl (by decide +kernel)
set_option maxRecDepth 65536 in
theorem w_c1 : (Jvm.Cond.code ({ cls := "com/example/upupa/upupa/xdm/XmlNames", name := "isNameStartCharacter", desc := "(I)Z" } : Jvm.MethodName) prog_117_method_5_code (1 : Nat) (Option.some Jvm.ClassFile.FieldType.boolean)).before args0 about1 = true := code_word (m := ⟨2, 1⟩) (meth := k2m1) (c := k2c1) (by decide +kernel) rfl rfl rfl (by decide +kernel)
set_option maxRecDepth 65536 in
theorem w_c2 : (Jvm.Cond.code ({ cls := "com/example/upupa/upupa/xdm/XmlNamesIsNameStartCharacterPinLaw", name := "ref", desc := "(I)Z" } : Jvm.MethodName) method_2_code (1 : Nat) (Option.some Jvm.ClassFile.FieldType.boolean)).before args0 about1 = true := code_word (m := ⟨1, 1⟩) (meth := k1m1) (c := k1c1) (by decide +kernel) rfl rfl rfl (by decide +kernel)
def codes1 : List Jvm.Cond := [Jvm.Cond.code x code maxLocals ret, Jvm.Cond.code ({ cls := "com/example/upupa/upupa/xdm/XmlNames", name := "isNameStartCharacter", desc := "(I)Z" } : Jvm.MethodName) prog_117_method_5_code (1 : Nat) (Option.some Jvm.ClassFile.FieldType.boolean), Jvm.Cond.code ({ cls := "com/example/upupa/upupa/xdm/XmlNamesIsNameStartCharacterPinLaw", name := "ref", desc := "(I)Z" } : Jvm.MethodName) method_2_code (1 : Nat) (Option.some Jvm.ClassFile.FieldType.boolean)]
set_option maxRecDepth 65536 in
theorem codes_eq : words1.filter isCode = codes1 := rfl
theorem w_codes : ∀ c ∈ words1.filter isCode, c.before args0 about1 = true := by
  rw [codes_eq]
  intro c hc
  simp only [codes1, List.mem_cons, List.not_mem_nil, or_false] at hc
  rcases hc with rfl | rfl | rfl
  · exact w_c0
  · exact w_c1
  · exact w_c2
set_option maxRecDepth 65536 in
theorem w_t1 : (words1.take 24).all (fun c => isCode c || c.before args0 about1) = true := by decide +kernel
set_option maxRecDepth 65536 in
theorem w_t2 : (words1.drop 24).all (fun c => isCode c || c.before args0 about1) = true := by decide +kernel
theorem w_tables : (allAtoms (Jvm.Cond.code x code maxLocals ret :: tables_1)).before args0 about1 = true := by
  rw [allAtoms_all]
  show words1.all (fun c => c.before args0 about1) = true
  refine all_split ?_ w_codes
  rw [← List.take_append_drop 24 words1, List.all_append, w_t1, w_t2]
  rfl
set_option maxRecDepth 65536 in
theorem w_case : (Jvm.Cond.and given_1 narrow_1).before args0 about1 = true := by decide +kernel
theorem w_applies : (headSpec (Jvm.Cond.code x code maxLocals ret :: tables_1) room_1).applies x e0.platform about1 = true :=
  (Spec.applies_iff w_frames).mpr ⟨w_running, w_runnable, w_alone, w_named, w_hears, w_ripe, w_room, w_tables⟩
theorem atStart : AtStart classFile x code maxLocals ret World_1 tables_1 room_1 Calls_1 rest_1 Pre_1 launch0 p0 e0 about1 theMethod args0 below0 :=
  ⟨lists_1, trivial, launch0.admits_env _ _ _, launch0.least_env, fairChoices_fair.cas, fairChoices_fair.clock, w_frames, w_args, w_heap, w_applies, trivial, trivial, w_case⟩
end start1
theorem witness_1 : WitnessClaimed_1 := ⟨start1.p0, start1.e0, start1.about1, start1.theMethod, start1.args0, start1.below0, start1.atStart⟩
end Jvm.Pilot.@@N@@
