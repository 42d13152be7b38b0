import JvmDerived
import JvmDerived.Pilot.@@N@@Statement
import JvmDerived.Pilot.@@N@@Code
set_option linter.unusedVariables false
set_option linter.unusedSimpArgs false
@@BLOCK:NumsL.lean.txt@@
namespace Jvm.Pilot.@@N@@
open Jvm Jvm.ClassFile Sem Op Lib Jvm.Free Jvm.Stand Jvm.LawKit Jvm.RoadKit Bundle Jvm.Pilot.@@N@@.Jvm.D
/-! ## The walk layer: where a walk stands (On), what is fixed in it (Cx), the goal (Gl), a method's contract (Con) -/
def On (p : Program) (l : Launch) (e : Env) (R : Room) (s : State) (m : MethodId) (args : Array Value) (below : List Frame) (meth : Method) (c : Code) (n0 : Nat) (T : State) (h : Heap) (k n : Nat) : Prop :=
  ∃ locs, Stand p l e R s m args below meth c T locs k n ∧ Fr n0 locs ∧ T.heap = h
def Cx (p : Program) (s : State) (m : MethodId) (meth : Method) (c : Code) (Z : State) (own name : String) (cod : ByteArray) (maxL : Nat) (ret : Option FieldType) : Prop :=
  p.tables.exec = Jvm.exec ∧ Z.Warmed39 s.vm ∧ c.code = cod ∧ c.maxLocals = maxL ∧ s.vm.findClass own = some m.cls ∧ meth.name = name ∧ meth.sig.returnType = ret ∧ meth.locks = false
def Gl (p : Program) (e : Env) (below : List Frame) (s : State) (R : Room) (n0 : Nat) (Q : Option Value → Heap → Prop) (T : State) (g : JFrame) : Prop :=
  ∃ s₂ o, Steps p.tables e below (T.setTop g) s₂ ∧ s₂.status = .running ∧ Ended s₂ below o ∧ ∃ v L, o = .returned v ∧ (Q v s₂.heap ∧ Fr n0 L) ∧ FrameEnd s o s₂ L R.cells R.slots
def Con (l : Launch) (Z : State) (y : MethodName) (cod : ByteArray) (maxL : Nat) (ret : Option FieldType) (rm : Room) (as : Array Value) (h0 : Heap) (n0 : Nat) (Q : Option Value → Heap → Prop) : Prop :=
  ∀ ws, MetFree l y (head1 (Jvm.Cond.code y cod maxL ret :: ws) rm) (fun a U => a = as ∧ Z.Warmed39 U.vm ∧ U.heap = h0) (fun _ _ _ _ _ => True) (fun _ U o U' => ∃ v L, o = .returned v ∧ (Q v U'.heap ∧ Fr n0 L) ∧ FrameEnd U o U' L rm.cells rm.slots)
section OwnKit
variable {p : Program} {l : Launch} {e : Env} {R : Room} {s : State} {m : MethodId} {args : Array Value} {below : List Frame} {meth : Method} {c : Code} {Z : State} {a0 : Array Value} {n0 : Nat} {T : State} {h h' h0 : Heap} {k n : Nat} {own name : String} {cod : ByteArray} {maxL : Nat} {ret : Option FieldType} {Q : Option Value → Heap → Prop} {pc pc' pf : Nat} {L L' : Array Slot} {r : List Value} {a b : Addr}
theorem Gl.st {T' : State} {g g' : JFrame} (kk : Gl p e below s R n0 Q T' g') (hs : ∀ t, Steps p.tables e below (T'.setTop g') t → Steps p.tables e below (T.setTop g) t) : Gl p e below s R n0 Q T g := by
  obtain ⟨s2, o, h1, q⟩ := kk; exact ⟨s2, o, hs _ h1, q⟩
theorem Con.of {y : MethodName} {rm : Room} {as : Array Value} (hpl : plainFor y = true) {L0 : Array Slot} (hef : ∀ m, entryFrame m as maxL = mkF m 0 L0 [])
    (body : ∀ (p : Program) (e : Env) (s : State) (m : MethodId) (below : List Frame) (meth : Method) (c : Code) (T : State), Cx p s m meth c Z y.cls y.name cod maxL ret → On p l e rm s m as below meth c n0 T h0 0 0 → Gl p e below s rm n0 Q T (mkF m 0 L0 [])) :
    Con l Z y cod maxL ret rm as h0 n0 Q := by
  intro ws
  refine MetFree.of_bodySF hpl hisR ?_
  intro p e s m args below meth c s₁ Bd hml0 hP hK
  obtain ⟨rfl, hZ, hh⟩ := hP
  have e0 : s₁.heap = h0 := by rw [← hh, Bd.state]; rfl
  have q := body p e s m below meth c s₁ ⟨Bd.exec, hZ, Bd.bytes, hml0, findClass_of_methodNamed Bd.named, (name_of_methodNamed Bd.named Bd.method).1, Bd.returns, Bd.notSynchronized⟩ ⟨[], Stand.of_body Bd, Fr.nil n0, e0⟩
  rw [← hef m] at q
  exact q
theorem Con.imp {y : MethodName} {rm : Room} {as : Array Value} {Q' : Option Value → Heap → Prop} (K : Con l Z y cod maxL ret rm as h0 n0 Q) (hq : ∀ v h, Q v h → Q' v h) : Con l Z y cod maxL ret rm as h0 n0 Q' := by
  intro ws p e ha hc hk s m args below hf happ hP hK
  obtain ⟨n, o, h1, h2, h3, v, L, h4, ⟨h5, h6⟩, h7⟩ := K ws p e ha hc hk s m args below hf happ hP hK
  exact ⟨n, o, h1, h2, h3, v, L, h4, ⟨hq _ _ h5, h6⟩, h7⟩
theorem g_iload (C : Cx p s m meth c Z own name cod maxL ret) (S : On p l e R s m args below meth c n0 T h k n) {i : Nat} {v : Int32} (hd : decode cod pc = .ok (.iload i, 2)) (hp : pc + 2 = pc') (hl : L[i]? = some (.val (.int v))) (kk : Gl p e below s R n0 Q T (mkF m pc' L (.int v :: r))) : Gl p e below s R n0 Q T (mkF m pc L r) := by
  obtain ⟨locs, X, -⟩ := S; subst hp
  exact kk.st fun _ q => XS.iload X.here C.1 rfl (hb C.2.2.1 hd) hl q
theorem g_iloadN (C : Cx p s m meth c Z own name cod maxL ret) (S : On p l e R s m args below meth c n0 T h k n) {i : Fin 4} {v : Int32} (hd : decode cod pc = .ok (.iload_n i, 1)) (hp : pc + 1 = pc') (hl : L[i.val]? = some (.val (.int v))) (kk : Gl p e below s R n0 Q T (mkF m pc' L (.int v :: r))) : Gl p e below s R n0 Q T (mkF m pc L r) := by
  obtain ⟨locs, X, -⟩ := S; subst hp
  exact kk.st fun _ q => XS.iloadN X.here C.1 rfl (hb C.2.2.1 hd) hl q
theorem g_istore (C : Cx p s m meth c Z own name cod maxL ret) (S : On p l e R s m args below meth c n0 T h k n) {i : Nat} {v : Int32} (hd : decode cod pc = .ok (.istore i, 2)) (hp : pc + 2 = pc') (hl : storeLocals L i (.int v) = some L') (kk : Gl p e below s R n0 Q T (mkF m pc' L' r)) : Gl p e below s R n0 Q T (mkF m pc L (.int v :: r)) := by
  obtain ⟨locs, X, -⟩ := S; subst hp
  exact kk.st fun _ q => XS.istore X.here C.1 rfl (hb C.2.2.1 hd) rfl hl q
theorem g_istoreN (C : Cx p s m meth c Z own name cod maxL ret) (S : On p l e R s m args below meth c n0 T h k n) {i : Fin 4} {v : Int32} (hd : decode cod pc = .ok (.istore_n i, 1)) (hp : pc + 1 = pc') (hl : storeLocals L i.val (.int v) = some L') (kk : Gl p e below s R n0 Q T (mkF m pc' L' r)) : Gl p e below s R n0 Q T (mkF m pc L (.int v :: r)) := by
  obtain ⟨locs, X, -⟩ := S; subst hp
  exact kk.st fun _ q => XS.istoreN X.here C.1 rfl (hb C.2.2.1 hd) rfl hl q
theorem g_lload (C : Cx p s m meth c Z own name cod maxL ret) (S : On p l e R s m args below meth c n0 T h k n) {i : Nat} {v : Int64} (hd : decode cod pc = .ok (.lload i, 2)) (hp : pc + 2 = pc') (hl : L[i]? = some (.val (.long v))) (kk : Gl p e below s R n0 Q T (mkF m pc' L (.long v :: r))) : Gl p e below s R n0 Q T (mkF m pc L r) := by
  obtain ⟨locs, X, -⟩ := S; subst hp
  exact kk.st fun _ q => XS.lload X.here C.1 rfl (hb C.2.2.1 hd) hl q
theorem g_lloadN (C : Cx p s m meth c Z own name cod maxL ret) (S : On p l e R s m args below meth c n0 T h k n) {i : Fin 4} {v : Int64} (hd : decode cod pc = .ok (.lload_n i, 1)) (hp : pc + 1 = pc') (hl : L[i.val]? = some (.val (.long v))) (kk : Gl p e below s R n0 Q T (mkF m pc' L (.long v :: r))) : Gl p e below s R n0 Q T (mkF m pc L r) := by
  obtain ⟨locs, X, -⟩ := S; subst hp
  exact kk.st fun _ q => XS.lloadN X.here C.1 rfl (hb C.2.2.1 hd) hl q
theorem g_lstore (C : Cx p s m meth c Z own name cod maxL ret) (S : On p l e R s m args below meth c n0 T h k n) {i : Nat} {v : Int64} (hd : decode cod pc = .ok (.lstore i, 2)) (hp : pc + 2 = pc') (hl : storeLocals L i (.long v) = some L') (kk : Gl p e below s R n0 Q T (mkF m pc' L' r)) : Gl p e below s R n0 Q T (mkF m pc L (.long v :: r)) := by
  obtain ⟨locs, X, -⟩ := S; subst hp
  exact kk.st fun _ q => XS.lstore X.here C.1 rfl (hb C.2.2.1 hd) rfl hl q
theorem g_lstoreN (C : Cx p s m meth c Z own name cod maxL ret) (S : On p l e R s m args below meth c n0 T h k n) {i : Fin 4} {v : Int64} (hd : decode cod pc = .ok (.lstore_n i, 1)) (hp : pc + 1 = pc') (hl : storeLocals L i.val (.long v) = some L') (kk : Gl p e below s R n0 Q T (mkF m pc' L' r)) : Gl p e below s R n0 Q T (mkF m pc L (.long v :: r)) := by
  obtain ⟨locs, X, -⟩ := S; subst hp
  exact kk.st fun _ q => XS.lstoreN X.here C.1 rfl (hb C.2.2.1 hd) rfl hl q
theorem g_aload (C : Cx p s m meth c Z own name cod maxL ret) (S : On p l e R s m args below meth c n0 T h k n) {i : Nat} {v : Value} (hd : decode cod pc = .ok (.aload i, 2)) (hp : pc + 2 = pc') (hl : L[i]? = some (.val v)) (hv : v.isRef = true) (kk : Gl p e below s R n0 Q T (mkF m pc' L (v :: r))) : Gl p e below s R n0 Q T (mkF m pc L r) := by
  obtain ⟨locs, X, -⟩ := S; subst hp
  exact kk.st fun _ q => XS.aload X.here C.1 rfl (hb C.2.2.1 hd) hl hv q
theorem g_aloadN (C : Cx p s m meth c Z own name cod maxL ret) (S : On p l e R s m args below meth c n0 T h k n) {i : Fin 4} {v : Value} (hd : decode cod pc = .ok (.aload_n i, 1)) (hp : pc + 1 = pc') (hl : L[i.val]? = some (.val v)) (hv : v.isRef = true) (kk : Gl p e below s R n0 Q T (mkF m pc' L (v :: r))) : Gl p e below s R n0 Q T (mkF m pc L r) := by
  obtain ⟨locs, X, -⟩ := S; subst hp
  exact kk.st fun _ q => XS.aloadN X.here C.1 rfl (hb C.2.2.1 hd) hl hv q
theorem g_astore (C : Cx p s m meth c Z own name cod maxL ret) (S : On p l e R s m args below meth c n0 T h k n) {i : Nat} {v : Value} (hd : decode cod pc = .ok (.astore i, 2)) (hp : pc + 2 = pc') (hv : v.isRef = true) (hl : storeLocals L i v = some L') (kk : Gl p e below s R n0 Q T (mkF m pc' L' r)) : Gl p e below s R n0 Q T (mkF m pc L (v :: r)) := by
  obtain ⟨locs, X, -⟩ := S; subst hp
  exact kk.st fun _ q => XS.astore X.here C.1 rfl (hb C.2.2.1 hd) rfl hv hl q
theorem g_astoreN (C : Cx p s m meth c Z own name cod maxL ret) (S : On p l e R s m args below meth c n0 T h k n) {i : Fin 4} {v : Value} (hd : decode cod pc = .ok (.astore_n i, 1)) (hp : pc + 1 = pc') (hv : v.isRef = true) (hl : storeLocals L i.val v = some L') (kk : Gl p e below s R n0 Q T (mkF m pc' L' r)) : Gl p e below s R n0 Q T (mkF m pc L (v :: r)) := by
  obtain ⟨locs, X, -⟩ := S; subst hp
  exact kk.st fun _ q => XS.astoreN X.here C.1 rfl (hb C.2.2.1 hd) rfl hv hl q
theorem g_iconst (C : Cx p s m meth c Z own name cod maxL ret) (S : On p l e R s m args below meth c n0 T h k n) {i : Int} (v : Int32) (hd : decode cod pc = .ok (.iconst i, 1)) (hp : pc + 1 = pc') (hv : Int32.ofInt i = v) (kk : Gl p e below s R n0 Q T (mkF m pc' L (.int v :: r))) : Gl p e below s R n0 Q T (mkF m pc L r) := by
  obtain ⟨locs, X, -⟩ := S; subst hp hv
  exact kk.st fun _ q => XS.iconst X.here C.1 rfl (hb C.2.2.1 hd) q
theorem g_bipush (C : Cx p s m meth c Z own name cod maxL ret) (S : On p l e R s m args below meth c n0 T h k n) {i : Int} (v : Int32) (hd : decode cod pc = .ok (.bipush i, 2)) (hp : pc + 2 = pc') (hv : (Int8.ofInt i).toInt32 = v) (kk : Gl p e below s R n0 Q T (mkF m pc' L (.int v :: r))) : Gl p e below s R n0 Q T (mkF m pc L r) := by
  obtain ⟨locs, X, -⟩ := S; subst hp hv
  exact kk.st fun _ q => XS.bipush X.here C.1 rfl (hb C.2.2.1 hd) q
theorem g_sipush (C : Cx p s m meth c Z own name cod maxL ret) (S : On p l e R s m args below meth c n0 T h k n) {i : Int} (v : Int32) (hd : decode cod pc = .ok (.sipush i, 3)) (hp : pc + 3 = pc') (hv : (Int16.ofInt i).toInt32 = v) (kk : Gl p e below s R n0 Q T (mkF m pc' L (.int v :: r))) : Gl p e below s R n0 Q T (mkF m pc L r) := by
  obtain ⟨locs, X, -⟩ := S; subst hp hv
  exact kk.st fun _ q => XS.sipush X.here C.1 rfl (hb C.2.2.1 hd) q
theorem g_lconst (C : Cx p s m meth c Z own name cod maxL ret) (S : On p l e R s m args below meth c n0 T h k n) {i : Fin 2} (v : Int64) (hd : decode cod pc = .ok (.lconst i, 1)) (hp : pc + 1 = pc') (hv : Int64.ofNat i = v) (kk : Gl p e below s R n0 Q T (mkF m pc' L (.long v :: r))) : Gl p e below s R n0 Q T (mkF m pc L r) := by
  obtain ⟨locs, X, -⟩ := S; subst hp hv
  exact kk.st fun _ q => XS.lconst X.here C.1 rfl (hb C.2.2.1 hd) q
theorem g_aconst_null (C : Cx p s m meth c Z own name cod maxL ret) (S : On p l e R s m args below meth c n0 T h k n) (hd : decode cod pc = .ok (.aconst_null, 1)) (hp : pc + 1 = pc') (kk : Gl p e below s R n0 Q T (mkF m pc' L (.null :: r))) : Gl p e below s R n0 Q T (mkF m pc L r) := by
  obtain ⟨locs, X, -⟩ := S; subst hp
  exact kk.st fun _ q => XS.aconstNull X.here C.1 rfl (hb C.2.2.1 hd) q
theorem g_iadd (C : Cx p s m meth c Z own name cod maxL ret) (S : On p l e R s m args below meth c n0 T h k n) {x y : Int32} (hd : decode cod pc = .ok (.iadd, 1)) (hp : pc + 1 = pc') (kk : Gl p e below s R n0 Q T (mkF m pc' L (.int (x + y) :: r))) : Gl p e below s R n0 Q T (mkF m pc L (.int y :: .int x :: r)) := by
  obtain ⟨locs, X, -⟩ := S; subst hp
  exact kk.st fun _ q => XS.iadd X.here C.1 rfl (hb C.2.2.1 hd) rfl q
theorem g_isub (C : Cx p s m meth c Z own name cod maxL ret) (S : On p l e R s m args below meth c n0 T h k n) {x y : Int32} (hd : decode cod pc = .ok (.isub, 1)) (hp : pc + 1 = pc') (kk : Gl p e below s R n0 Q T (mkF m pc' L (.int (x - y) :: r))) : Gl p e below s R n0 Q T (mkF m pc L (.int y :: .int x :: r)) := by
  obtain ⟨locs, X, -⟩ := S; subst hp
  exact kk.st fun _ q => XS.isub X.here C.1 rfl (hb C.2.2.1 hd) rfl q
theorem g_imul (C : Cx p s m meth c Z own name cod maxL ret) (S : On p l e R s m args below meth c n0 T h k n) {x y : Int32} (hd : decode cod pc = .ok (.imul, 1)) (hp : pc + 1 = pc') (kk : Gl p e below s R n0 Q T (mkF m pc' L (.int (x * y) :: r))) : Gl p e below s R n0 Q T (mkF m pc L (.int y :: .int x :: r)) := by
  obtain ⟨locs, X, -⟩ := S; subst hp
  exact kk.st fun _ q => XS.imul X.here C.1 rfl (hb C.2.2.1 hd) rfl q
theorem g_iand (C : Cx p s m meth c Z own name cod maxL ret) (S : On p l e R s m args below meth c n0 T h k n) {x y : Int32} (hd : decode cod pc = .ok (.iand, 1)) (hp : pc + 1 = pc') (kk : Gl p e below s R n0 Q T (mkF m pc' L (.int (x &&& y) :: r))) : Gl p e below s R n0 Q T (mkF m pc L (.int y :: .int x :: r)) := by
  obtain ⟨locs, X, -⟩ := S; subst hp
  exact kk.st fun _ q => XS.iand X.here C.1 rfl (hb C.2.2.1 hd) rfl q
theorem g_ior (C : Cx p s m meth c Z own name cod maxL ret) (S : On p l e R s m args below meth c n0 T h k n) {x y : Int32} (hd : decode cod pc = .ok (.ior, 1)) (hp : pc + 1 = pc') (kk : Gl p e below s R n0 Q T (mkF m pc' L (.int (x ||| y) :: r))) : Gl p e below s R n0 Q T (mkF m pc L (.int y :: .int x :: r)) := by
  obtain ⟨locs, X, -⟩ := S; subst hp
  exact kk.st fun _ q => XS.ior X.here C.1 rfl (hb C.2.2.1 hd) rfl q
theorem g_ixor (C : Cx p s m meth c Z own name cod maxL ret) (S : On p l e R s m args below meth c n0 T h k n) {x y : Int32} (hd : decode cod pc = .ok (.ixor, 1)) (hp : pc + 1 = pc') (kk : Gl p e below s R n0 Q T (mkF m pc' L (.int (x ^^^ y) :: r))) : Gl p e below s R n0 Q T (mkF m pc L (.int y :: .int x :: r)) := by
  obtain ⟨locs, X, -⟩ := S; subst hp
  exact kk.st fun _ q => XS.ixor X.here C.1 rfl (hb C.2.2.1 hd) rfl q
theorem g_ladd (C : Cx p s m meth c Z own name cod maxL ret) (S : On p l e R s m args below meth c n0 T h k n) {x y : Int64} (hd : decode cod pc = .ok (.ladd, 1)) (hp : pc + 1 = pc') (kk : Gl p e below s R n0 Q T (mkF m pc' L (.long (x + y) :: r))) : Gl p e below s R n0 Q T (mkF m pc L (.long y :: .long x :: r)) := by
  obtain ⟨locs, X, -⟩ := S; subst hp
  exact kk.st fun _ q => XS.ladd X.here C.1 rfl (hb C.2.2.1 hd) rfl q
theorem g_lsub (C : Cx p s m meth c Z own name cod maxL ret) (S : On p l e R s m args below meth c n0 T h k n) {x y : Int64} (hd : decode cod pc = .ok (.lsub, 1)) (hp : pc + 1 = pc') (kk : Gl p e below s R n0 Q T (mkF m pc' L (.long (x - y) :: r))) : Gl p e below s R n0 Q T (mkF m pc L (.long y :: .long x :: r)) := by
  obtain ⟨locs, X, -⟩ := S; subst hp
  exact kk.st fun _ q => XS.lsub X.here C.1 rfl (hb C.2.2.1 hd) rfl q
theorem g_lmul (C : Cx p s m meth c Z own name cod maxL ret) (S : On p l e R s m args below meth c n0 T h k n) {x y : Int64} (hd : decode cod pc = .ok (.lmul, 1)) (hp : pc + 1 = pc') (kk : Gl p e below s R n0 Q T (mkF m pc' L (.long (x * y) :: r))) : Gl p e below s R n0 Q T (mkF m pc L (.long y :: .long x :: r)) := by
  obtain ⟨locs, X, -⟩ := S; subst hp
  exact kk.st fun _ q => XS.lmul X.here C.1 rfl (hb C.2.2.1 hd) rfl q
theorem g_land (C : Cx p s m meth c Z own name cod maxL ret) (S : On p l e R s m args below meth c n0 T h k n) {x y : Int64} (hd : decode cod pc = .ok (.land, 1)) (hp : pc + 1 = pc') (kk : Gl p e below s R n0 Q T (mkF m pc' L (.long (x &&& y) :: r))) : Gl p e below s R n0 Q T (mkF m pc L (.long y :: .long x :: r)) := by
  obtain ⟨locs, X, -⟩ := S; subst hp
  exact kk.st fun _ q => XS.land X.here C.1 rfl (hb C.2.2.1 hd) rfl q
theorem g_lor (C : Cx p s m meth c Z own name cod maxL ret) (S : On p l e R s m args below meth c n0 T h k n) {x y : Int64} (hd : decode cod pc = .ok (.lor, 1)) (hp : pc + 1 = pc') (kk : Gl p e below s R n0 Q T (mkF m pc' L (.long (x ||| y) :: r))) : Gl p e below s R n0 Q T (mkF m pc L (.long y :: .long x :: r)) := by
  obtain ⟨locs, X, -⟩ := S; subst hp
  exact kk.st fun _ q => XS.lor X.here C.1 rfl (hb C.2.2.1 hd) rfl q
theorem g_lxor (C : Cx p s m meth c Z own name cod maxL ret) (S : On p l e R s m args below meth c n0 T h k n) {x y : Int64} (hd : decode cod pc = .ok (.lxor, 1)) (hp : pc + 1 = pc') (kk : Gl p e below s R n0 Q T (mkF m pc' L (.long (x ^^^ y) :: r))) : Gl p e below s R n0 Q T (mkF m pc L (.long y :: .long x :: r)) := by
  obtain ⟨locs, X, -⟩ := S; subst hp
  exact kk.st fun _ q => XS.lxor X.here C.1 rfl (hb C.2.2.1 hd) rfl q
theorem g_ishl (C : Cx p s m meth c Z own name cod maxL ret) (S : On p l e R s m args below meth c n0 T h k n) {x y : Int32} (hd : decode cod pc = .ok (.ishl, 1)) (hp : pc + 1 = pc') (kk : Gl p e below s R n0 Q T (mkF m pc' L (.int (x <<< (y &&& 31)) :: r))) : Gl p e below s R n0 Q T (mkF m pc L (.int y :: .int x :: r)) := by
  obtain ⟨locs, X, -⟩ := S; subst hp
  exact kk.st fun _ q => XS.ishl X.here C.1 rfl (hb C.2.2.1 hd) rfl q
theorem g_ishr (C : Cx p s m meth c Z own name cod maxL ret) (S : On p l e R s m args below meth c n0 T h k n) {x y : Int32} (hd : decode cod pc = .ok (.ishr, 1)) (hp : pc + 1 = pc') (kk : Gl p e below s R n0 Q T (mkF m pc' L (.int (x >>> (y &&& 31)) :: r))) : Gl p e below s R n0 Q T (mkF m pc L (.int y :: .int x :: r)) := by
  obtain ⟨locs, X, -⟩ := S; subst hp
  exact kk.st fun _ q => XS.ishr X.here C.1 rfl (hb C.2.2.1 hd) rfl q
theorem g_iushr (C : Cx p s m meth c Z own name cod maxL ret) (S : On p l e R s m args below meth c n0 T h k n) {x y : Int32} (hd : decode cod pc = .ok (.iushr, 1)) (hp : pc + 1 = pc') (kk : Gl p e below s R n0 Q T (mkF m pc' L (.int ((x.toUInt32 >>> (y &&& 31).toUInt32).toInt32) :: r))) : Gl p e below s R n0 Q T (mkF m pc L (.int y :: .int x :: r)) := by
  obtain ⟨locs, X, -⟩ := S; subst hp
  exact kk.st fun _ q => XS.iushr X.here C.1 rfl (hb C.2.2.1 hd) rfl q
theorem g_lshl (C : Cx p s m meth c Z own name cod maxL ret) (S : On p l e R s m args below meth c n0 T h k n) {x : Int64} {y : Int32} (hd : decode cod pc = .ok (.lshl, 1)) (hp : pc + 1 = pc') (kk : Gl p e below s R n0 Q T (mkF m pc' L (.long (x <<< (y &&& 0x3f).toInt64) :: r))) : Gl p e below s R n0 Q T (mkF m pc L (.int y :: .long x :: r)) := by
  obtain ⟨locs, X, -⟩ := S; subst hp
  exact kk.st fun _ q => XS.lshl X.here C.1 rfl (hb C.2.2.1 hd) rfl q
theorem g_lshr (C : Cx p s m meth c Z own name cod maxL ret) (S : On p l e R s m args below meth c n0 T h k n) {x : Int64} {y : Int32} (hd : decode cod pc = .ok (.lshr, 1)) (hp : pc + 1 = pc') (kk : Gl p e below s R n0 Q T (mkF m pc' L (.long (x >>> (y &&& 0x3f).toInt64) :: r))) : Gl p e below s R n0 Q T (mkF m pc L (.int y :: .long x :: r)) := by
  obtain ⟨locs, X, -⟩ := S; subst hp
  exact kk.st fun _ q => XS.lshr X.here C.1 rfl (hb C.2.2.1 hd) rfl q
theorem g_lushr (C : Cx p s m meth c Z own name cod maxL ret) (S : On p l e R s m args below meth c n0 T h k n) {x : Int64} {y : Int32} (hd : decode cod pc = .ok (.lushr, 1)) (hp : pc + 1 = pc') (kk : Gl p e below s R n0 Q T (mkF m pc' L (.long ((x.toUInt64 >>> (y &&& 0x3f).toInt64.toUInt64).toInt64) :: r))) : Gl p e below s R n0 Q T (mkF m pc L (.int y :: .long x :: r)) := by
  obtain ⟨locs, X, -⟩ := S; subst hp
  exact kk.st fun _ q => XS.lushr X.here C.1 rfl (hb C.2.2.1 hd) rfl q
theorem g_i2l (C : Cx p s m meth c Z own name cod maxL ret) (S : On p l e R s m args below meth c n0 T h k n) {x : Int32} (hd : decode cod pc = .ok (.i2l, 1)) (hp : pc + 1 = pc') (kk : Gl p e below s R n0 Q T (mkF m pc' L (.long (x.toInt64) :: r))) : Gl p e below s R n0 Q T (mkF m pc L (.int x :: r)) := by
  obtain ⟨locs, X, -⟩ := S; subst hp
  exact kk.st fun _ q => XS.i2l X.here C.1 rfl (hb C.2.2.1 hd) rfl q
theorem g_l2i (C : Cx p s m meth c Z own name cod maxL ret) (S : On p l e R s m args below meth c n0 T h k n) {x : Int64} (hd : decode cod pc = .ok (.l2i, 1)) (hp : pc + 1 = pc') (kk : Gl p e below s R n0 Q T (mkF m pc' L (.int (x.toInt32) :: r))) : Gl p e below s R n0 Q T (mkF m pc L (.long x :: r)) := by
  obtain ⟨locs, X, -⟩ := S; subst hp
  exact kk.st fun _ q => XS.l2i X.here C.1 rfl (hb C.2.2.1 hd) rfl q
theorem g_i2b (C : Cx p s m meth c Z own name cod maxL ret) (S : On p l e R s m args below meth c n0 T h k n) {x : Int32} (hd : decode cod pc = .ok (.i2b, 1)) (hp : pc + 1 = pc') (kk : Gl p e below s R n0 Q T (mkF m pc' L (.int (x.toInt8.toInt32) :: r))) : Gl p e below s R n0 Q T (mkF m pc L (.int x :: r)) := by
  obtain ⟨locs, X, -⟩ := S; subst hp
  exact kk.st fun _ q => XS.i2b X.here C.1 rfl (hb C.2.2.1 hd) rfl q
theorem g_i2c (C : Cx p s m meth c Z own name cod maxL ret) (S : On p l e R s m args below meth c n0 T h k n) {x : Int32} (hd : decode cod pc = .ok (.i2c, 1)) (hp : pc + 1 = pc') (kk : Gl p e below s R n0 Q T (mkF m pc' L (.int (x.toUInt32.toUInt16.toUInt32.toInt32) :: r))) : Gl p e below s R n0 Q T (mkF m pc L (.int x :: r)) := by
  obtain ⟨locs, X, -⟩ := S; subst hp
  exact kk.st fun _ q => XS.i2c X.here C.1 rfl (hb C.2.2.1 hd) rfl q
theorem g_i2s (C : Cx p s m meth c Z own name cod maxL ret) (S : On p l e R s m args below meth c n0 T h k n) {x : Int32} (hd : decode cod pc = .ok (.i2s, 1)) (hp : pc + 1 = pc') (kk : Gl p e below s R n0 Q T (mkF m pc' L (.int (x.toInt16.toInt32) :: r))) : Gl p e below s R n0 Q T (mkF m pc L (.int x :: r)) := by
  obtain ⟨locs, X, -⟩ := S; subst hp
  exact kk.st fun _ q => XS.i2s X.here C.1 rfl (hb C.2.2.1 hd) rfl q
theorem g_lneg (C : Cx p s m meth c Z own name cod maxL ret) (S : On p l e R s m args below meth c n0 T h k n) {x : Int64} (hd : decode cod pc = .ok (.lneg, 1)) (hp : pc + 1 = pc') (kk : Gl p e below s R n0 Q T (mkF m pc' L (.long (-x) :: r))) : Gl p e below s R n0 Q T (mkF m pc L (.long x :: r)) := by
  obtain ⟨locs, X, -⟩ := S; subst hp
  exact kk.st fun _ q => XS.lneg X.here C.1 rfl (hb C.2.2.1 hd) rfl q
theorem g_ineg (C : Cx p s m meth c Z own name cod maxL ret) (S : On p l e R s m args below meth c n0 T h k n) {x : Int32} (hd : decode cod pc = .ok (.ineg, 1)) (hp : pc + 1 = pc') (kk : Gl p e below s R n0 Q T (mkF m pc' L (.int (-x) :: r))) : Gl p e below s R n0 Q T (mkF m pc L (.int x :: r)) := by
  obtain ⟨locs, X, -⟩ := S; subst hp
  exact kk.st fun _ q => XS.ineg X.here C.1 rfl (hb C.2.2.1 hd) rfl q
theorem g_irem (C : Cx p s m meth c Z own name cod maxL ret) (S : On p l e R s m args below meth c n0 T h k n) {x y : Int32} (hd : decode cod pc = .ok (.irem, 1)) (hp : pc + 1 = pc') (hy : y ≠ 0) (kk : Gl p e below s R n0 Q T (mkF m pc' L (.int (x % y) :: r))) : Gl p e below s R n0 Q T (mkF m pc L (.int y :: .int x :: r)) := by
  obtain ⟨locs, X, -⟩ := S; subst hp
  exact kk.st fun _ q => iremM X C.1 rfl (hb C.2.2.1 hd) rfl hy q
theorem g_idiv (C : Cx p s m meth c Z own name cod maxL ret) (S : On p l e R s m args below meth c n0 T h k n) {x y : Int32} (hd : decode cod pc = .ok (.idiv, 1)) (hp : pc + 1 = pc') (hy : y ≠ 0) (kk : Gl p e below s R n0 Q T (mkF m pc' L (.int (x / y) :: r))) : Gl p e below s R n0 Q T (mkF m pc L (.int y :: .int x :: r)) := by
  obtain ⟨locs, X, -⟩ := S; subst hp
  exact kk.st fun _ q => XS.idiv X.here C.1 rfl (hb C.2.2.1 hd) rfl hy q
theorem g_lcmp (C : Cx p s m meth c Z own name cod maxL ret) (S : On p l e R s m args below meth c n0 T h k n) {x y : Int64} (hd : decode cod pc = .ok (.lcmp, 1)) (hp : pc + 1 = pc') (kk : Gl p e below s R n0 Q T (mkF m pc' L (.int (lcmpW x y) :: r))) : Gl p e below s R n0 Q T (mkF m pc L (.long y :: .long x :: r)) := by
  obtain ⟨locs, X, -⟩ := S; subst hp
  exact kk.st fun _ q => XS.lcmp X.here C.1 rfl (hb C.2.2.1 hd) rfl q
theorem g_dup (C : Cx p s m meth c Z own name cod maxL ret) (S : On p l e R s m args below meth c n0 T h k n) {x : Value} (hd : decode cod pc = .ok (.dup, 1)) (hp : pc + 1 = pc') (hc : x.category = 1) (kk : Gl p e below s R n0 Q T (mkF m pc' L (x :: x :: r))) : Gl p e below s R n0 Q T (mkF m pc L (x :: r)) := by
  obtain ⟨locs, X, -⟩ := S; subst hp
  exact kk.st fun _ q => XS.dup X.here C.1 rfl (hb C.2.2.1 hd) rfl hc q
theorem g_pop (C : Cx p s m meth c Z own name cod maxL ret) (S : On p l e R s m args below meth c n0 T h k n) {x : Value} (hd : decode cod pc = .ok (.pop, 1)) (hp : pc + 1 = pc') (hc : x.category = 1) (kk : Gl p e below s R n0 Q T (mkF m pc' L r)) : Gl p e below s R n0 Q T (mkF m pc L (x :: r)) := by
  obtain ⟨locs, X, -⟩ := S; subst hp
  exact kk.st fun _ q => XS.pop X.here C.1 rfl (hb C.2.2.1 hd) rfl hc q
theorem g_dup_x1 (C : Cx p s m meth c Z own name cod maxL ret) (S : On p l e R s m args below meth c n0 T h k n) {x y : Value} (hd : decode cod pc = .ok (.dup_x1, 1)) (hp : pc + 1 = pc') (hc : x.category = 1) (hc2 : y.category = 1) (kk : Gl p e below s R n0 Q T (mkF m pc' L (x :: y :: x :: r))) : Gl p e below s R n0 Q T (mkF m pc L (x :: y :: r)) := by
  obtain ⟨locs, X, -⟩ := S; subst hp
  exact kk.st fun _ q => XS.dupX1 X.here C.1 rfl (hb C.2.2.1 hd) rfl hc hc2 q
theorem g_dup2 (C : Cx p s m meth c Z own name cod maxL ret) (S : On p l e R s m args below meth c n0 T h k n) {x y : Value} (hd : decode cod pc = .ok (.dup2, 1)) (hp : pc + 1 = pc') (hc : x.category = 1) (hc2 : y.category = 1) (kk : Gl p e below s R n0 Q T (mkF m pc' L (x :: y :: x :: y :: r))) : Gl p e below s R n0 Q T (mkF m pc L (x :: y :: r)) := by
  obtain ⟨locs, X, -⟩ := S; subst hp
  exact kk.st fun _ q => XT.dup2 X.here C.1 rfl (hb C.2.2.1 hd) rfl hc hc2 q
theorem g_iinc (C : Cx p s m meth c Z own name cod maxL ret) (S : On p l e R s m args below meth c n0 T h k n) {i : Nat} {cst : Int} {x : Int32} (v : Int32) (hd : decode cod pc = .ok (.iinc i cst, 3)) (hp : pc + 3 = pc') (hv : Int32.ofInt cst = v) (hl : L[i]? = some (.val (.int x))) (hl' : storeLocals L i (.int (x + v)) = some L') (kk : Gl p e below s R n0 Q T (mkF m pc' L' r)) : Gl p e below s R n0 Q T (mkF m pc L r) := by
  obtain ⟨locs, X, -⟩ := S; subst hp hv
  exact kk.st fun _ q => XS.iinc X.here C.1 rfl (hb C.2.2.1 hd) hl hl' q
theorem g_goto (C : Cx p s m meth c Z own name cod maxL ret) (S : On p l e R s m args below meth c n0 T h k n) {o : Int} (hd : decode cod pc = .ok (.goto o, 3)) (ho : 0 ≤ (pc : Int) + o) (hp : ((pc : Int) + o).toNat = pc') (kk : Gl p e below s R n0 Q T (mkF m pc' L r)) : Gl p e below s R n0 Q T (mkF m pc L r) := by
  obtain ⟨locs, X, -⟩ := S
  exact kk.st fun _ q => XS.goto X.here C.1 rfl rfl (hb C.2.2.1 hd) ho hp q
theorem g_icmp_lt (C : Cx p s m meth c Z own name cod maxL ret) (S : On p l e R s m args below meth c n0 T h k n) {x y : Int32} {o : Int} (hd : decode cod pc = .ok (.if_icmp .lt o, 3)) (ho : 0 ≤ (pc : Int) + o) (hp : ((pc : Int) + o).toNat = pc') (hq : pc + 3 = pf) (ht : x < y → Gl p e below s R n0 Q T (mkF m pc' L r)) (hf : ¬ x < y → Gl p e below s R n0 Q T (mkF m pf L r)) : Gl p e below s R n0 Q T (mkF m pc L (.int y :: .int x :: r)) := by
  obtain ⟨locs, X, -⟩ := S; subst hq
  by_cases q : x < y
  · exact (ht q).st fun _ z => XS.icmpYes X.here C.1 rfl rfl (hb C.2.2.1 hd) rfl ((tlt q).1) ho hp z
  · exact (hf q).st fun _ z => XS.icmpNo X.here C.1 rfl (hb C.2.2.1 hd) rfl ((flt q).1) z
theorem g_if_lt (C : Cx p s m meth c Z own name cod maxL ret) (S : On p l e R s m args below meth c n0 T h k n) {x : Int32} {o : Int} (hd : decode cod pc = .ok (.ifCond .lt o, 3)) (ho : 0 ≤ (pc : Int) + o) (hp : ((pc : Int) + o).toNat = pc') (hq : pc + 3 = pf) (ht : x < (0 : Int32) → Gl p e below s R n0 Q T (mkF m pc' L r)) (hf : ¬ x < (0 : Int32) → Gl p e below s R n0 Q T (mkF m pf L r)) : Gl p e below s R n0 Q T (mkF m pc L (.int x :: r)) := by
  obtain ⟨locs, X, -⟩ := S; subst hq
  by_cases q : x < (0 : Int32)
  · exact (ht q).st fun _ z => XS.ifYes X.here C.1 rfl rfl (hb C.2.2.1 hd) rfl ((if0 _ _).trans (tlt q).1) ho hp z
  · exact (hf q).st fun _ z => XS.ifNo X.here C.1 rfl (hb C.2.2.1 hd) rfl ((if0 _ _).trans (flt q).1) z
theorem g_lif_lt (C : Cx p s m meth c Z own name cod maxL ret) (S : On p l e R s m args below meth c n0 T h k n) {x y : Int64} {o : Int} (hd : decode cod pc = .ok (.ifCond .lt o, 3)) (ho : 0 ≤ (pc : Int) + o) (hp : ((pc : Int) + o).toNat = pc') (hq : pc + 3 = pf) (ht : x < y → Gl p e below s R n0 Q T (mkF m pc' L r)) (hf : ¬ x < y → Gl p e below s R n0 Q T (mkF m pf L r)) : Gl p e below s R n0 Q T (mkF m pc L (.int (lcmpW x y) :: r)) := by
  obtain ⟨locs, X, -⟩ := S; subst hq
  by_cases q : x < y
  · exact (ht q).st fun _ z => XS.ifYes X.here C.1 rfl rfl (hb C.2.2.1 hd) rfl ((if0 _ _).trans (tlt ((lw_lt x y).mpr q)).1) ho hp z
  · exact (hf q).st fun _ z => XS.ifNo X.here C.1 rfl (hb C.2.2.1 hd) rfl ((if0 _ _).trans (flt (fun z => q ((lw_lt x y).mp z))).1) z
theorem g_icmp_ge (C : Cx p s m meth c Z own name cod maxL ret) (S : On p l e R s m args below meth c n0 T h k n) {x y : Int32} {o : Int} (hd : decode cod pc = .ok (.if_icmp .ge o, 3)) (ho : 0 ≤ (pc : Int) + o) (hp : ((pc : Int) + o).toNat = pc') (hq : pc + 3 = pf) (ht : ¬ x < y → Gl p e below s R n0 Q T (mkF m pc' L r)) (hf : x < y → Gl p e below s R n0 Q T (mkF m pf L r)) : Gl p e below s R n0 Q T (mkF m pc L (.int y :: .int x :: r)) := by
  obtain ⟨locs, X, -⟩ := S; subst hq
  by_cases q : x < y
  · exact (hf q).st fun _ z => XS.icmpNo X.here C.1 rfl (hb C.2.2.1 hd) rfl ((tlt q).2.1) z
  · exact (ht q).st fun _ z => XS.icmpYes X.here C.1 rfl rfl (hb C.2.2.1 hd) rfl ((flt q).2.1) ho hp z
theorem g_if_ge (C : Cx p s m meth c Z own name cod maxL ret) (S : On p l e R s m args below meth c n0 T h k n) {x : Int32} {o : Int} (hd : decode cod pc = .ok (.ifCond .ge o, 3)) (ho : 0 ≤ (pc : Int) + o) (hp : ((pc : Int) + o).toNat = pc') (hq : pc + 3 = pf) (ht : ¬ x < (0 : Int32) → Gl p e below s R n0 Q T (mkF m pc' L r)) (hf : x < (0 : Int32) → Gl p e below s R n0 Q T (mkF m pf L r)) : Gl p e below s R n0 Q T (mkF m pc L (.int x :: r)) := by
  obtain ⟨locs, X, -⟩ := S; subst hq
  by_cases q : x < (0 : Int32)
  · exact (hf q).st fun _ z => XS.ifNo X.here C.1 rfl (hb C.2.2.1 hd) rfl ((if0 _ _).trans (tlt q).2.1) z
  · exact (ht q).st fun _ z => XS.ifYes X.here C.1 rfl rfl (hb C.2.2.1 hd) rfl ((if0 _ _).trans (flt q).2.1) ho hp z
theorem g_lif_ge (C : Cx p s m meth c Z own name cod maxL ret) (S : On p l e R s m args below meth c n0 T h k n) {x y : Int64} {o : Int} (hd : decode cod pc = .ok (.ifCond .ge o, 3)) (ho : 0 ≤ (pc : Int) + o) (hp : ((pc : Int) + o).toNat = pc') (hq : pc + 3 = pf) (ht : ¬ x < y → Gl p e below s R n0 Q T (mkF m pc' L r)) (hf : x < y → Gl p e below s R n0 Q T (mkF m pf L r)) : Gl p e below s R n0 Q T (mkF m pc L (.int (lcmpW x y) :: r)) := by
  obtain ⟨locs, X, -⟩ := S; subst hq
  by_cases q : x < y
  · exact (hf q).st fun _ z => XS.ifNo X.here C.1 rfl (hb C.2.2.1 hd) rfl ((if0 _ _).trans (tlt ((lw_lt x y).mpr q)).2.1) z
  · exact (ht q).st fun _ z => XS.ifYes X.here C.1 rfl rfl (hb C.2.2.1 hd) rfl ((if0 _ _).trans (flt (fun z => q ((lw_lt x y).mp z))).2.1) ho hp z
theorem g_icmp_gt (C : Cx p s m meth c Z own name cod maxL ret) (S : On p l e R s m args below meth c n0 T h k n) {x y : Int32} {o : Int} (hd : decode cod pc = .ok (.if_icmp .gt o, 3)) (ho : 0 ≤ (pc : Int) + o) (hp : ((pc : Int) + o).toNat = pc') (hq : pc + 3 = pf) (ht : y < x → Gl p e below s R n0 Q T (mkF m pc' L r)) (hf : ¬ y < x → Gl p e below s R n0 Q T (mkF m pf L r)) : Gl p e below s R n0 Q T (mkF m pc L (.int y :: .int x :: r)) := by
  obtain ⟨locs, X, -⟩ := S; subst hq
  by_cases q : y < x
  · exact (ht q).st fun _ z => XS.icmpYes X.here C.1 rfl rfl (hb C.2.2.1 hd) rfl ((tlt q).2.2.1) ho hp z
  · exact (hf q).st fun _ z => XS.icmpNo X.here C.1 rfl (hb C.2.2.1 hd) rfl ((flt q).2.2.1) z
theorem g_if_gt (C : Cx p s m meth c Z own name cod maxL ret) (S : On p l e R s m args below meth c n0 T h k n) {x : Int32} {o : Int} (hd : decode cod pc = .ok (.ifCond .gt o, 3)) (ho : 0 ≤ (pc : Int) + o) (hp : ((pc : Int) + o).toNat = pc') (hq : pc + 3 = pf) (ht : (0 : Int32) < x → Gl p e below s R n0 Q T (mkF m pc' L r)) (hf : ¬ (0 : Int32) < x → Gl p e below s R n0 Q T (mkF m pf L r)) : Gl p e below s R n0 Q T (mkF m pc L (.int x :: r)) := by
  obtain ⟨locs, X, -⟩ := S; subst hq
  by_cases q : (0 : Int32) < x
  · exact (ht q).st fun _ z => XS.ifYes X.here C.1 rfl rfl (hb C.2.2.1 hd) rfl ((if0 _ _).trans (tlt q).2.2.1) ho hp z
  · exact (hf q).st fun _ z => XS.ifNo X.here C.1 rfl (hb C.2.2.1 hd) rfl ((if0 _ _).trans (flt q).2.2.1) z
theorem g_lif_gt (C : Cx p s m meth c Z own name cod maxL ret) (S : On p l e R s m args below meth c n0 T h k n) {x y : Int64} {o : Int} (hd : decode cod pc = .ok (.ifCond .gt o, 3)) (ho : 0 ≤ (pc : Int) + o) (hp : ((pc : Int) + o).toNat = pc') (hq : pc + 3 = pf) (ht : y < x → Gl p e below s R n0 Q T (mkF m pc' L r)) (hf : ¬ y < x → Gl p e below s R n0 Q T (mkF m pf L r)) : Gl p e below s R n0 Q T (mkF m pc L (.int (lcmpW x y) :: r)) := by
  obtain ⟨locs, X, -⟩ := S; subst hq
  by_cases q : y < x
  · exact (ht q).st fun _ z => XS.ifYes X.here C.1 rfl rfl (hb C.2.2.1 hd) rfl ((if0 _ _).trans (tlt ((lw_gt x y).mpr q)).2.2.1) ho hp z
  · exact (hf q).st fun _ z => XS.ifNo X.here C.1 rfl (hb C.2.2.1 hd) rfl ((if0 _ _).trans (flt (fun z => q ((lw_gt x y).mp z))).2.2.1) z
theorem g_icmp_le (C : Cx p s m meth c Z own name cod maxL ret) (S : On p l e R s m args below meth c n0 T h k n) {x y : Int32} {o : Int} (hd : decode cod pc = .ok (.if_icmp .le o, 3)) (ho : 0 ≤ (pc : Int) + o) (hp : ((pc : Int) + o).toNat = pc') (hq : pc + 3 = pf) (ht : ¬ y < x → Gl p e below s R n0 Q T (mkF m pc' L r)) (hf : y < x → Gl p e below s R n0 Q T (mkF m pf L r)) : Gl p e below s R n0 Q T (mkF m pc L (.int y :: .int x :: r)) := by
  obtain ⟨locs, X, -⟩ := S; subst hq
  by_cases q : y < x
  · exact (hf q).st fun _ z => XS.icmpNo X.here C.1 rfl (hb C.2.2.1 hd) rfl ((tlt q).2.2.2) z
  · exact (ht q).st fun _ z => XS.icmpYes X.here C.1 rfl rfl (hb C.2.2.1 hd) rfl ((flt q).2.2.2) ho hp z
theorem g_if_le (C : Cx p s m meth c Z own name cod maxL ret) (S : On p l e R s m args below meth c n0 T h k n) {x : Int32} {o : Int} (hd : decode cod pc = .ok (.ifCond .le o, 3)) (ho : 0 ≤ (pc : Int) + o) (hp : ((pc : Int) + o).toNat = pc') (hq : pc + 3 = pf) (ht : ¬ (0 : Int32) < x → Gl p e below s R n0 Q T (mkF m pc' L r)) (hf : (0 : Int32) < x → Gl p e below s R n0 Q T (mkF m pf L r)) : Gl p e below s R n0 Q T (mkF m pc L (.int x :: r)) := by
  obtain ⟨locs, X, -⟩ := S; subst hq
  by_cases q : (0 : Int32) < x
  · exact (hf q).st fun _ z => XS.ifNo X.here C.1 rfl (hb C.2.2.1 hd) rfl ((if0 _ _).trans (tlt q).2.2.2) z
  · exact (ht q).st fun _ z => XS.ifYes X.here C.1 rfl rfl (hb C.2.2.1 hd) rfl ((if0 _ _).trans (flt q).2.2.2) ho hp z
theorem g_lif_le (C : Cx p s m meth c Z own name cod maxL ret) (S : On p l e R s m args below meth c n0 T h k n) {x y : Int64} {o : Int} (hd : decode cod pc = .ok (.ifCond .le o, 3)) (ho : 0 ≤ (pc : Int) + o) (hp : ((pc : Int) + o).toNat = pc') (hq : pc + 3 = pf) (ht : ¬ y < x → Gl p e below s R n0 Q T (mkF m pc' L r)) (hf : y < x → Gl p e below s R n0 Q T (mkF m pf L r)) : Gl p e below s R n0 Q T (mkF m pc L (.int (lcmpW x y) :: r)) := by
  obtain ⟨locs, X, -⟩ := S; subst hq
  by_cases q : y < x
  · exact (hf q).st fun _ z => XS.ifNo X.here C.1 rfl (hb C.2.2.1 hd) rfl ((if0 _ _).trans (tlt ((lw_gt x y).mpr q)).2.2.2) z
  · exact (ht q).st fun _ z => XS.ifYes X.here C.1 rfl rfl (hb C.2.2.1 hd) rfl ((if0 _ _).trans (flt (fun z => q ((lw_gt x y).mp z))).2.2.2) ho hp z
theorem g_icmp_eq (C : Cx p s m meth c Z own name cod maxL ret) (S : On p l e R s m args below meth c n0 T h k n) {x y : Int32} {o : Int} (hd : decode cod pc = .ok (.if_icmp .eq o, 3)) (ho : 0 ≤ (pc : Int) + o) (hp : ((pc : Int) + o).toNat = pc') (hq : pc + 3 = pf) (ht : x = y → Gl p e below s R n0 Q T (mkF m pc' L r)) (hf : ¬ x = y → Gl p e below s R n0 Q T (mkF m pf L r)) : Gl p e below s R n0 Q T (mkF m pc L (.int y :: .int x :: r)) := by
  obtain ⟨locs, X, -⟩ := S; subst hq
  by_cases q : x = y
  · exact (ht q).st fun _ z => XS.icmpYes X.here C.1 rfl rfl (hb C.2.2.1 hd) rfl ((teq q).1) ho hp z
  · exact (hf q).st fun _ z => XS.icmpNo X.here C.1 rfl (hb C.2.2.1 hd) rfl ((feq q).1) z
theorem g_if_eq (C : Cx p s m meth c Z own name cod maxL ret) (S : On p l e R s m args below meth c n0 T h k n) {x : Int32} {o : Int} (hd : decode cod pc = .ok (.ifCond .eq o, 3)) (ho : 0 ≤ (pc : Int) + o) (hp : ((pc : Int) + o).toNat = pc') (hq : pc + 3 = pf) (ht : x = (0 : Int32) → Gl p e below s R n0 Q T (mkF m pc' L r)) (hf : ¬ x = (0 : Int32) → Gl p e below s R n0 Q T (mkF m pf L r)) : Gl p e below s R n0 Q T (mkF m pc L (.int x :: r)) := by
  obtain ⟨locs, X, -⟩ := S; subst hq
  by_cases q : x = (0 : Int32)
  · exact (ht q).st fun _ z => XS.ifYes X.here C.1 rfl rfl (hb C.2.2.1 hd) rfl ((if0 _ _).trans (teq q).1) ho hp z
  · exact (hf q).st fun _ z => XS.ifNo X.here C.1 rfl (hb C.2.2.1 hd) rfl ((if0 _ _).trans (feq q).1) z
theorem g_lif_eq (C : Cx p s m meth c Z own name cod maxL ret) (S : On p l e R s m args below meth c n0 T h k n) {x y : Int64} {o : Int} (hd : decode cod pc = .ok (.ifCond .eq o, 3)) (ho : 0 ≤ (pc : Int) + o) (hp : ((pc : Int) + o).toNat = pc') (hq : pc + 3 = pf) (ht : x = y → Gl p e below s R n0 Q T (mkF m pc' L r)) (hf : ¬ x = y → Gl p e below s R n0 Q T (mkF m pf L r)) : Gl p e below s R n0 Q T (mkF m pc L (.int (lcmpW x y) :: r)) := by
  obtain ⟨locs, X, -⟩ := S; subst hq
  by_cases q : x = y
  · exact (ht q).st fun _ z => XS.ifYes X.here C.1 rfl rfl (hb C.2.2.1 hd) rfl ((if0 _ _).trans (teq ((lw_eq x y).mpr q)).1) ho hp z
  · exact (hf q).st fun _ z => XS.ifNo X.here C.1 rfl (hb C.2.2.1 hd) rfl ((if0 _ _).trans (feq (fun z => q ((lw_eq x y).mp z))).1) z
theorem g_icmp_ne (C : Cx p s m meth c Z own name cod maxL ret) (S : On p l e R s m args below meth c n0 T h k n) {x y : Int32} {o : Int} (hd : decode cod pc = .ok (.if_icmp .ne o, 3)) (ho : 0 ≤ (pc : Int) + o) (hp : ((pc : Int) + o).toNat = pc') (hq : pc + 3 = pf) (ht : ¬ x = y → Gl p e below s R n0 Q T (mkF m pc' L r)) (hf : x = y → Gl p e below s R n0 Q T (mkF m pf L r)) : Gl p e below s R n0 Q T (mkF m pc L (.int y :: .int x :: r)) := by
  obtain ⟨locs, X, -⟩ := S; subst hq
  by_cases q : x = y
  · exact (hf q).st fun _ z => XS.icmpNo X.here C.1 rfl (hb C.2.2.1 hd) rfl ((teq q).2) z
  · exact (ht q).st fun _ z => XS.icmpYes X.here C.1 rfl rfl (hb C.2.2.1 hd) rfl ((feq q).2) ho hp z
theorem g_if_ne (C : Cx p s m meth c Z own name cod maxL ret) (S : On p l e R s m args below meth c n0 T h k n) {x : Int32} {o : Int} (hd : decode cod pc = .ok (.ifCond .ne o, 3)) (ho : 0 ≤ (pc : Int) + o) (hp : ((pc : Int) + o).toNat = pc') (hq : pc + 3 = pf) (ht : ¬ x = (0 : Int32) → Gl p e below s R n0 Q T (mkF m pc' L r)) (hf : x = (0 : Int32) → Gl p e below s R n0 Q T (mkF m pf L r)) : Gl p e below s R n0 Q T (mkF m pc L (.int x :: r)) := by
  obtain ⟨locs, X, -⟩ := S; subst hq
  by_cases q : x = (0 : Int32)
  · exact (hf q).st fun _ z => XS.ifNo X.here C.1 rfl (hb C.2.2.1 hd) rfl ((if0 _ _).trans (teq q).2) z
  · exact (ht q).st fun _ z => XS.ifYes X.here C.1 rfl rfl (hb C.2.2.1 hd) rfl ((if0 _ _).trans (feq q).2) ho hp z
theorem g_lif_ne (C : Cx p s m meth c Z own name cod maxL ret) (S : On p l e R s m args below meth c n0 T h k n) {x y : Int64} {o : Int} (hd : decode cod pc = .ok (.ifCond .ne o, 3)) (ho : 0 ≤ (pc : Int) + o) (hp : ((pc : Int) + o).toNat = pc') (hq : pc + 3 = pf) (ht : ¬ x = y → Gl p e below s R n0 Q T (mkF m pc' L r)) (hf : x = y → Gl p e below s R n0 Q T (mkF m pf L r)) : Gl p e below s R n0 Q T (mkF m pc L (.int (lcmpW x y) :: r)) := by
  obtain ⟨locs, X, -⟩ := S; subst hq
  by_cases q : x = y
  · exact (hf q).st fun _ z => XS.ifNo X.here C.1 rfl (hb C.2.2.1 hd) rfl ((if0 _ _).trans (teq ((lw_eq x y).mpr q)).2) z
  · exact (ht q).st fun _ z => XS.ifYes X.here C.1 rfl rfl (hb C.2.2.1 hd) rfl ((if0 _ _).trans (feq (fun z => q ((lw_eq x y).mp z))).2) ho hp z
theorem g_ifnonnull_ref (C : Cx p s m meth c Z own name cod maxL ret) (S : On p l e R s m args below meth c n0 T h k n) {o : Int} (hd : decode cod pc = .ok (.ifnonnull o, 3)) (ho : 0 ≤ (pc : Int) + o) (hp : ((pc : Int) + o).toNat = pc') (kk : Gl p e below s R n0 Q T (mkF m pc' L r)) : Gl p e below s R n0 Q T (mkF m pc L (.ref a :: r)) := by
  obtain ⟨locs, X, -⟩ := S
  exact kk.st fun _ q => XS.ifnonnullYes X.here C.1 rfl rfl (hb C.2.2.1 hd) rfl ho hp q
theorem g_ifnonnull_null (C : Cx p s m meth c Z own name cod maxL ret) (S : On p l e R s m args below meth c n0 T h k n) {o : Int} (hd : decode cod pc = .ok (.ifnonnull o, 3)) (hq : pc + 3 = pf) (kk : Gl p e below s R n0 Q T (mkF m pf L r)) : Gl p e below s R n0 Q T (mkF m pc L (.null :: r)) := by
  obtain ⟨locs, X, -⟩ := S; subst hq
  exact kk.st fun _ q => XS.ifnonnullNo X.here C.1 rfl (hb C.2.2.1 hd) rfl q
theorem g_ifnull_null (C : Cx p s m meth c Z own name cod maxL ret) (S : On p l e R s m args below meth c n0 T h k n) {o : Int} (hd : decode cod pc = .ok (.ifnull o, 3)) (ho : 0 ≤ (pc : Int) + o) (hp : ((pc : Int) + o).toNat = pc') (kk : Gl p e below s R n0 Q T (mkF m pc' L r)) : Gl p e below s R n0 Q T (mkF m pc L (.null :: r)) := by
  obtain ⟨locs, X, -⟩ := S
  exact kk.st fun _ q => XS.ifnullYes X.here C.1 rfl rfl (hb C.2.2.1 hd) rfl ho hp q
theorem g_ifnull_ref (C : Cx p s m meth c Z own name cod maxL ret) (S : On p l e R s m args below meth c n0 T h k n) {o : Int} (hd : decode cod pc = .ok (.ifnull o, 3)) (hq : pc + 3 = pf) (kk : Gl p e below s R n0 Q T (mkF m pf L r)) : Gl p e below s R n0 Q T (mkF m pc L (.ref a :: r)) := by
  obtain ⟨locs, X, -⟩ := S; subst hq
  exact kk.st fun _ q => XS.ifnullNo X.here C.1 rfl (hb C.2.2.1 hd) rfl q
theorem g_acmp_eq (C : Cx p s m meth c Z own name cod maxL ret) (S : On p l e R s m args below meth c n0 T h k n) {x y : Value} (hx : x.isRef = true) (hy : y.isRef = true) {o : Int} (hd : decode cod pc = .ok (.if_acmp .eq o, 3)) (ho : 0 ≤ (pc : Int) + o) (hp : ((pc : Int) + o).toNat = pc') (hq : pc + 3 = pf) (ht : x = y → Gl p e below s R n0 Q T (mkF m pc' L r)) (hf : ¬ x = y → Gl p e below s R n0 Q T (mkF m pf L r)) : Gl p e below s R n0 Q T (mkF m pc L (y :: x :: r)) := by
  obtain ⟨locs, X, -⟩ := S; subst hq hp
  by_cases q : x = y
  · exact (ht q).st fun _ z => Jvm.RoadKit.acmp X C.1 rfl hx hy (same := true) rfl (hb C.2.2.1 hd) rfl (decide_eq_true q) ho (by simp [acV]) z
  · exact (hf q).st fun _ z => Jvm.RoadKit.acmp X C.1 rfl hx hy (same := false) rfl (hb C.2.2.1 hd) rfl (decide_eq_false q) ho (by simp [acV]) z
theorem g_acmp_ne (C : Cx p s m meth c Z own name cod maxL ret) (S : On p l e R s m args below meth c n0 T h k n) {x y : Value} (hx : x.isRef = true) (hy : y.isRef = true) {o : Int} (hd : decode cod pc = .ok (.if_acmp .ne o, 3)) (ho : 0 ≤ (pc : Int) + o) (hp : ((pc : Int) + o).toNat = pc') (hq : pc + 3 = pf) (ht : ¬ x = y → Gl p e below s R n0 Q T (mkF m pc' L r)) (hf : x = y → Gl p e below s R n0 Q T (mkF m pf L r)) : Gl p e below s R n0 Q T (mkF m pc L (y :: x :: r)) := by
  obtain ⟨locs, X, -⟩ := S; subst hq hp
  by_cases q : x = y
  · exact (hf q).st fun _ z => Jvm.RoadKit.acmp X C.1 rfl hx hy (same := true) rfl (hb C.2.2.1 hd) rfl (decide_eq_true q) ho (by simp [acV]) z
  · exact (ht q).st fun _ z => Jvm.RoadKit.acmp X C.1 rfl hx hy (same := false) rfl (hb C.2.2.1 hd) rfl (decide_eq_false q) ho (by simp [acV]) z
theorem g_ldc (C : Cx p s m meth c Z own name cod maxL ret) (S : On p l e R s m args below meth c n0 T h k n) {v : Int32} {i : Nat} (hd : decode cod pc = .ok (.ldc i, 2)) (w : (Jvm.Cond.constant own i v).before a0 Z = true) (hp : pc + 2 = pc') (kk : Gl p e below s R n0 Q T (mkF m pc' L (.int v :: r))) : Gl p e below s R n0 Q T (mkF m pc L r) := by
  obtain ⟨locs, X, -⟩ := S; subst hp
  exact kk.st fun t q => X.ldcInt (g := mkF m pc L r) C.1 C.2.2.2.2.1 (mvT C.2.1 w) rfl (hb C.2.2.1 hd) t q
theorem g_ldc2 (C : Cx p s m meth c Z own name cod maxL ret) (S : On p l e R s m args below meth c n0 T h k n) {v : Int64} {i : Nat} (hd : decode cod pc = .ok (.ldc2_w i, 3)) (w : (Jvm.Cond.constantLong own i v).before a0 Z = true) (hp : pc + 3 = pc') (kk : Gl p e below s R n0 Q T (mkF m pc' L (.long v :: r))) : Gl p e below s R n0 Q T (mkF m pc L r) := by
  obtain ⟨locs, X, -⟩ := S; subst hp
  exact kk.st fun t q => X.ldc2Long (g := mkF m pc L r) C.1 C.2.2.2.2.1 (mvT C.2.1 w) rfl (hb C.2.2.1 hd) t q
theorem g_leave (C : Cx p s m meth c Z own name cod maxL ret) (S : On p l e R s m args below meth c n0 T h k n) {v : Option Value} (hk : k ≤ R.cells) (hn : n ≤ R.slots) (hv : meth.sig.returnType = none → v = none) (q : Q v h)
    (hst : ∀ fs, (∀ (f : JFrame) (acts : List Action), f.method = m → f.locked = none → f.entered = [] → (doReturn e (T.setTop f) acts v).1 = T.setFrames fs) → ∀ locs, Stand p l e R s m args below meth c T locs k n → Steps p.tables e below (T.setTop (mkF m pc L r)) (T.setFrames fs)) : Gl p e below s R n0 Q T (mkF m pc L r) := by
  obtain ⟨locs, X, N, eh⟩ := S
  obtain ⟨fs, hr, hrun, hended, hW, hsame⟩ := X.leave (v := v) hv C.2.2.2.2.2.2.2
  have q' : Q v (T.setFrames fs).heap := by show Q v T.heap; rw [eh]; exact q
  exact ⟨_, _, hst fs hr locs X, hrun, hended, _, _, rfl, ⟨q', N⟩, ⟨_, rfl⟩, hW, hsame.mono hk hn⟩
theorem g_return (C : Cx p s m meth c Z own name cod maxL none) (S : On p l e R s m args below meth c n0 T h k n) (hd : decode cod pc = .ok (.return_, 1)) (hk : k ≤ R.cells) (hn : n ≤ R.slots) (q : Q none h) : Gl p e below s R n0 Q T (mkF m pc L []) :=
  g_leave C S (v := none) hk hn (fun _ => rfl) q fun fs hr locs X => X.returnOut C.1 C.2.2.2.2.2.2.1 (hb C.2.2.1 hd) hr
theorem g_retv {t : FieldType} {w : Value} {i : Instr} (C : Cx p s m meth c Z own name cod maxL (some t)) (S : On p l e R s m args below meth c n0 T h k n) (hd : decode cod pc = .ok (i, 1)) (hn' : narrow t w = w) (hi : (i = .ireturn ∧ (t = .int ∨ t = .boolean ∨ t = .byte ∨ t = .char ∨ t = .short) ∧ ∃ z, w = .int z) ∨ (i = .lreturn ∧ t = .long ∧ ∃ z, w = .long z) ∨ (i = .dreturn ∧ t = .double ∧ ∃ z, w = .double z) ∨ (i = .freturn ∧ t = .float ∧ ∃ z, w = .float z) ∨ (i = .areturn ∧ t.isReference = true ∧ w.isRef = true)) (hk : k ≤ R.cells) (hn : n ≤ R.slots) (q : Q (some w) h) : Gl p e below s R n0 Q T (mkF m pc L (w :: r)) :=
  g_leave C S (v := some w) hk hn (fun z => by rw [C.2.2.2.2.2.2.1] at z; cases z) q fun fs hr locs X => retOut X C.1 C.2.2.2.2.2.2.1 hn' hi (hb C.2.2.1 hd) hr
theorem g_retI {z : Int32} (C : Cx p s m meth c Z own name cod maxL (some .int)) (S : On p l e R s m args below meth c n0 T h k n) (hd : decode cod pc = .ok (.ireturn, 1)) (hk : k ≤ R.cells) (hn : n ≤ R.slots) (q : Q (some (.int z)) h) : Gl p e below s R n0 Q T (mkF m pc L (.int z :: r)) := g_retv C S hd rfl (Or.inl ⟨rfl, Or.inl rfl, z, rfl⟩) hk hn q
theorem g_retZ {z : Int32} (C : Cx p s m meth c Z own name cod maxL (some .boolean)) (S : On p l e R s m args below meth c n0 T h k n) (hd : decode cod pc = .ok (.ireturn, 1)) (hz : z &&& 1 = z) (hk : k ≤ R.cells) (hn : n ≤ R.slots) (q : Q (some (.int z)) h) : Gl p e below s R n0 Q T (mkF m pc L (.int z :: r)) := g_retv C S hd (congrArg Value.int hz) (Or.inl ⟨rfl, Or.inr (Or.inl rfl), z, rfl⟩) hk hn q
theorem g_retJ {z : Int64} (C : Cx p s m meth c Z own name cod maxL (some .long)) (S : On p l e R s m args below meth c n0 T h k n) (hd : decode cod pc = .ok (.lreturn, 1)) (hk : k ≤ R.cells) (hn : n ≤ R.slots) (q : Q (some (.long z)) h) : Gl p e below s R n0 Q T (mkF m pc L (.long z :: r)) := g_retv C S hd rfl (Or.inr (Or.inl ⟨rfl, rfl, z, rfl⟩)) hk hn q
theorem g_retA {t : FieldType} {w : Value} (C : Cx p s m meth c Z own name cod maxL (some t)) (S : On p l e R s m args below meth c n0 T h k n) (hd : decode cod pc = .ok (.areturn, 1)) (ht : t.isReference = true) (hw : w.isRef = true) (hnw : narrow t w = w) (hk : k ≤ R.cells) (hn : n ≤ R.slots) (q : Q (some w) h) : Gl p e below s R n0 Q T (mkF m pc L (w :: r)) := g_retv C S hd hnw (Or.inr (Or.inr (Or.inr (Or.inr ⟨rfl, ht, hw⟩)))) hk hn q
theorem g_getF (C : Cx p s m meth c Z own name cod maxL ret) (S : On p l e R s m args below meth c n0 T h k n) {R0 O nm d host : String} {i : Nat} {v : Value} (hd : decode cod pc = .ok (.getfield i, 3)) (w : (Jvm.Cond.fieldLink own i R0 nm d).before a0 Z = true ∨ (Jvm.Cond.fieldLinkNest own i R0 nm d host).before a0 Z = true) (via : Via Z R0 O nm d) (F : Fld Z h a O nm d v) (hp : pc + 3 = pc') (kk : ∀ T', On p l e R s m args below meth c n0 T' h k n → Gl p e below s R n0 Q T' (mkF m pc' L (v :: r))) : Gl p e below s R n0 Q T (mkF m pc L (.ref a :: r)) := by
  obtain ⟨locs, X, N, eh⟩ := S; subst hp
  obtain ⟨T', X', eT, st⟩ := getF X C.1 C.2.1 C.2.2.2.2.1 w via eh F (g := mkF m pc L (.ref a :: r)) rfl rfl (hb C.2.2.1 hd)
  exact (kk T' ⟨locs, X', N, eT⟩).st st
theorem g_getS (C : Cx p s m meth c Z own name cod maxL ret) (S : On p l e R s m args below meth c n0 T h k n) {R0 O nm d host : String} {i : Nat} {v : Value} (hd : decode cod pc = .ok (.getstatic i, 3)) (w : (Jvm.Cond.fieldLink own i R0 nm d).before a0 Z = true ∨ (Jvm.Cond.fieldLinkNest own i R0 nm d host).before a0 Z = true) (via : Via Z R0 O nm d) (F : Sta Z h O nm d v) (hp : pc + 3 = pc') (kk : ∀ T', On p l e R s m args below meth c n0 T' h k n → Gl p e below s R n0 Q T' (mkF m pc' L (v :: r))) : Gl p e below s R n0 Q T (mkF m pc L r) := by
  obtain ⟨locs, X, N, eh⟩ := S; subst hp
  obtain ⟨T', X', eT, st⟩ := getS2 X C.1 C.2.1 C.2.2.2.2.1 w via eh F (g := mkF m pc L r) rfl (hb C.2.2.1 hd)
  exact (kk T' ⟨locs, X', N, eT⟩).st st
theorem g_putF (C : Cx p s m meth c Z own name cod maxL ret) (S : On p l e R s m args below meth c n0 T h k n) {R0 O nm d host K : String} {i kk0 : Nat} {ty : FieldType} {v old : Value} (hd : decode cod pc = .ok (.putfield i, 3)) (w : (Jvm.Cond.fieldLink own i R0 nm d).before a0 Z = true ∨ (Jvm.Cond.fieldLinkNest own i R0 nm d host).before a0 Z = true) (via : Via Z R0 O nm d) (F : Fld Z h a O nm d old) (E : Exa Z h a K) (Ly : (Jvm.Cond.lays K O nm d).before a0 Z = true ∨ ((Jvm.Cond.laysFinal K O nm d).before a0 Z = true ∧ own = O ∧ name = "<init>")) (wi : (Jvm.Cond.instantiable K kk0).before a0 Z = true) (hty : parseFieldDescriptor d = some ty) (hnr : narrow ty v = v) (hft : fits ty v = true) (ga : n0 ≤ a) (hp : pc + 3 = pc') (kk : ∀ T' h', On p l e R s m args below meth c n0 T' h' k n → Wr h h' a (Jvm.RoadKit.slotOf Z O nm d) v → Gl p e below s R n0 Q T' (mkF m pc' L r)) : Gl p e below s R n0 Q T (mkF m pc L (v :: .ref a :: r)) := by
  obtain ⟨locs, X, N, eh⟩ := S; subst hp
  obtain ⟨T', h', X', eT, W, st⟩ := putF X C.1 C.2.1 C.2.2.2.2.1 w via eh F E (Ly.imp id fun q => ⟨q.1, q.2.1, C.2.2.2.2.2.1.trans q.2.2⟩) wi hty hnr hft (g := mkF m pc L (v :: .ref a :: r)) rfl rfl (hb C.2.2.1 hd)
  exact (kk T' h' ⟨_, X', Fr.snoc X' N ga, eT⟩ W).st st
theorem g_new (C : Cx p s m meth c Z own name cod maxL ret) (S : On p l e R s m args below meth c n0 T h k n) {K : String} {i sz : Nat} (hd : decode cod pc = .ok (.new i, 3)) (w : (Jvm.Cond.classLink own i K).before a0 Z = true) (wi : (Jvm.Cond.instantiable K sz).before a0 Z = true) (wz : (Jvm.Cond.initialized K).before a0 Z = true) (hc : k + 1 ≤ R.cells) (hl : n + sz ≤ R.slots) (hp : pc + 3 = pc') (kk : ∀ T' h' a, On p l e R s m args below meth c n0 T' h' (k + 1) (n + sz) → a = h.size → Ext h h' → Exa Z h' a K → (∀ {O nm d : String} {ty : FieldType}, Laid Z a0 K O nm d → parseFieldDescriptor d = some ty → Fld Z h' a O nm d (defaultValue ty)) → Gl p e below s R n0 Q T' (mkF m pc' L (.ref a :: r))) : Gl p e below s R n0 Q T (mkF m pc L r) := by
  obtain ⟨locs, X, N, eh⟩ := S; subst hp
  obtain ⟨T', h', X', eT, E, A, D, -, st⟩ := newO X C.1 C.2.1 C.2.2.2.2.1 w wi wz eh (g := mkF m pc L r) rfl (hb C.2.2.1 hd) hc hl
  exact (kk T' h' h.size ⟨_, X', N, eT⟩ rfl E A D).st st
theorem g_initO (C : Cx p s m meth c Z own name cod maxL ret) (S : On p l e R s m args below meth c n0 T h k n) {i W : Nat} (hd : decode cod pc = .ok (.invokespecial i, 3)) (w1 : (Jvm.Cond.methodLink own i Lib.objectInit).before a0 Z = true) (w2 : (Jvm.Cond.instanceMethod Lib.objectInit).before a0 Z = true) (w3 : (Jvm.Cond.code Lib.objectInit ⟨#[0xb1]⟩ 1 none).before a0 Z = true) (hsz : L.size = maxL) (hf : 1 ≤ R.frames) (hW : (r.map fun v => v.category).sum ≤ W) (hl : W + 12 ≤ R.locals) (hp : pc + 3 = pc') (kk : ∀ T', On p l e R s m args below meth c n0 T' h k n → Gl p e below s R n0 Q T' (mkF m pc' L r)) : Gl p e below s R n0 Q T (mkF m pc L (.ref a :: r)) := by
  obtain ⟨locs, X, N, eh⟩ := S; subst hp
  obtain ⟨T', X', eT, st⟩ := initO X C.1 C.2.1 C.2.2.2.2.1 w1 w2 w3 eh (g := mkF m pc L (.ref a :: r)) rfl (hsz.trans C.2.2.2.1.symm) rfl (hb C.2.2.1 hd) hf (W := W) (by simpa using hW) hl
  exact (kk T' ⟨locs, X', N, eT⟩).st st
theorem notFace_of_inst {y : MethodName} {sz : Nat} (hZ : Z.Warmed39 s.vm) (wi : (Jvm.Cond.instantiable y.cls sz).before a0 Z = true) : NotFace s y := fun r0 h0 => by
  obtain ⟨c0, k0, i1, i2, -, i4, -⟩ := Cond.instantiable_spec (mvT (s := s) (args := #[]) hZ wi)
  have q := findClass_of_methodNamed h0
  rw [i1] at q; cases q
  exact ⟨k0, i2, (Bool.or_eq_false_iff.mp i4).1⟩
theorem g_callS (C : Cx p s m meth c Z own name cod maxL ret) (S : On p l e R s m args below meth c n0 T h k n) {y : MethodName} {bytes : ByteArray} {mx i W : Nat} {rt : Option FieldType} {rm : Room} {Q' : Option Value → Heap → Prop} {argsL stk : List Value} (hd : decode cod pc = .ok (.invokestatic i, 3)) (w1 : (Jvm.Cond.methodLink own i y).before a0 Z = true) (w2 : (Jvm.Cond.static y).before a0 Z = true) (w3 : (Jvm.Cond.initialized y.cls).before a0 Z = true) (w4 : (Jvm.Cond.code y bytes mx rt).before a0 Z = true) (hy : y.cls ≠ "java/lang/invoke/MethodHandle" ∧ y.cls ≠ "java/lang/invoke/VarHandle") (K : Con l Z y bytes mx rt rm argsL.toArray h n0 Q') (hst : stk = argsL.reverse ++ r) (hlen : ∀ sig, parseMethodDescriptor y.desc = some sig → argsL.length = sig.parameters.length) (hsz : L.size = maxL) (hW : (r.map fun v => v.category).sum ≤ W) (hf : rm.frames + 1 ≤ R.frames) (hlo : W + (mx + 11) + rm.locals ≤ R.locals) (hce : k + rm.cells ≤ R.cells) (hsl : n + rm.slots ≤ R.slots) (hp : pc + 3 = pc') (kk : ∀ T' h' v, Q' v h' → On p l e R s m args below meth c n0 T' h' (k + rm.cells) (n + rm.slots) → Gl p e below s R n0 Q T' (mkF m pc' L (v.toList ++ r))) : Gl p e below s R n0 Q T (mkF m pc L stk) := by
  obtain ⟨locs, X, N, eh⟩ := S; subst hp
  obtain ⟨v, vm1, ⟨T', L1, k1, n1⟩, -, X', ⟨Lc, hQ, l', y', z'⟩, st⟩ := Jvm.LawKit.callS X C.1 (y := y) C.2.2.2.2.1 (mvT C.2.1 w1) (mvT C.2.1 w2) (mvT C.2.1 w3) (mvT C.2.1 w4) hy (backOf (W := W) (Q := fun v h L => Q' v h ∧ Fr n0 L) (K []) C.2.1 w4 w3 hf hlo) (g := mkF m pc L stk) rfl (hsz.trans C.2.2.2.1.symm) (argsL := argsL) (rest := r) hlen hst (by simpa using hW) (hb C.2.2.1 hd) (fun _ _ => ⟨rfl, eh, hce, hsl⟩)
  dsimp only [Pt.U, Pt.locs, Pt.cells, Pt.slots] at X' st hQ l' y' z'
  subst l' y' z'
  exact (kk T' T'.heap v hQ.1 ⟨_, X', N.app hQ.2, rfl⟩).st st
theorem g_callI (C : Cx p s m meth c Z own name cod maxL ret) (S : On p l e R s m args below meth c n0 T h k n) {y : MethodName} {bytes : ByteArray} {mx i W : Nat} {rm : Room} {Q' : Option Value → Heap → Prop} {argsL stk : List Value} (hd : decode cod pc = .ok (.invokespecial i, 3)) (hy1 : y.name = "<init>") (w1 : (Jvm.Cond.methodLink own i y).before a0 Z = true) (w2 : (Jvm.Cond.instanceMethod y).before a0 Z = true) (w3 : (Jvm.Cond.initialized y.cls).before a0 Z = true) (w4 : (Jvm.Cond.code y bytes mx none).before a0 Z = true) (hy : y.cls ≠ "java/lang/invoke/MethodHandle" ∧ y.cls ≠ "java/lang/invoke/VarHandle") (K : Con l Z y bytes mx none rm (.ref a :: argsL).toArray h n0 Q') (hst : stk = argsL.reverse ++ .ref a :: r) (hlen : ∀ sig, parseMethodDescriptor y.desc = some sig → argsL.length = sig.parameters.length) (hsz : L.size = maxL) (hW : (r.map fun v => v.category).sum ≤ W) (hf : rm.frames + 1 ≤ R.frames) (hlo : W + (mx + 11) + rm.locals ≤ R.locals) (hce : k + rm.cells ≤ R.cells) (hsl : n + rm.slots ≤ R.slots) (hp : pc + 3 = pc') (kk : ∀ T' h' v, Q' v h' → On p l e R s m args below meth c n0 T' h' (k + rm.cells) (n + rm.slots) → Gl p e below s R n0 Q T' (mkF m pc' L (v.toList ++ r))) : Gl p e below s R n0 Q T (mkF m pc L stk) := by
  obtain ⟨locs, X, N, eh⟩ := S; subst hp
  obtain ⟨v, vm1, ⟨T', L1, k1, n1⟩, -, X', ⟨Lc, hQ, l', y', z'⟩, st⟩ := X.specialBack C.1 (y := y) hy1 C.2.2.2.2.1 (mvT C.2.1 w1) (mvT C.2.1 w2) (mvT C.2.1 w4) hy (backOf (W := W) (Q := fun v h L => Q' v h ∧ Fr n0 L) (K []) C.2.1 w4 w3 hf hlo) (g := mkF m pc L stk) rfl (hsz.trans C.2.2.2.1.symm) (Steps.refl _) (a := a) (argsL := argsL) (rest := r) hlen hst (by simpa using hW) (hb C.2.2.1 hd) (fun _ _ => ⟨rfl, eh, hce, hsl⟩)
  dsimp only [Pt.U, Pt.locs, Pt.cells, Pt.slots] at X' st hQ l' y' z'
  subst l' y' z'
  exact (kk T' T'.heap v hQ.1 ⟨_, X', N.app hQ.2, rfl⟩).st fun _ q => st.trans q
theorem g_callV (C : Cx p s m meth c Z own name cod maxL ret) (S : On p l e R s m args below meth c n0 T h k n) {K : String} {y z : MethodName} {bytes : ByteArray} {mx i W : Nat} {rt : Option FieldType} {rm : Room} {Q' : Option Value → Heap → Prop} {argsL stk : List Value} (hd : decode cod pc = .ok (.invokevirtual i, 3)) (w1 : (Jvm.Cond.methodLink own i y).before a0 Z = true) (w2 : (Jvm.Cond.declares y).before a0 Z = true) (hnf : NotFace s y) (w5 : (Jvm.Cond.selects K y z).before a0 Z = true) (w6 : (Jvm.Cond.instanceMethod z).before a0 Z = true) (w3 : (Jvm.Cond.initialized z.cls).before a0 Z = true) (w4 : (Jvm.Cond.code z bytes mx rt).before a0 Z = true) (hy : y.cls ≠ "java/lang/invoke/MethodHandle" ∧ y.cls ≠ "java/lang/invoke/VarHandle") (hyK : y.cls = K) (E : Exa Z h a K) (Kc : Con l Z z bytes mx rt rm (.ref a :: argsL).toArray h n0 Q') (hst : stk = argsL.reverse ++ .ref a :: r) (hlen : ∀ sig, parseMethodDescriptor y.desc = some sig → argsL.length = sig.parameters.length) (hsz : L.size = maxL) (hW : (r.map fun v => v.category).sum ≤ W) (hf : rm.frames + 1 ≤ R.frames) (hlo : W + (mx + 11) + rm.locals ≤ R.locals) (hce : k + rm.cells ≤ R.cells) (hsl : n + rm.slots ≤ R.slots) (hp : pc + 3 = pc') (kk : ∀ T' h' v, Q' v h' → On p l e R s m args below meth c n0 T' h' (k + rm.cells) (n + rm.slots) → Gl p e below s R n0 Q T' (mkF m pc' L (v.toList ++ r))) : Gl p e below s R n0 Q T (mkF m pc L stk) := by
  obtain ⟨locs, X, N, eh⟩ := S; subst hp hyK
  obtain ⟨cq, kq, qa, qb, qc⟩ := isOf C.2.1 eh E
  obtain ⟨v, vm1, ⟨T', L1, k1, n1⟩, -, X', ⟨Lc, hQ, l', y', z'⟩, st⟩ := X.virtualBack C.1 (y := y) (z := z) C.2.2.2.2.1 (mvT C.2.1 w1) (mvT C.2.1 w2) hnf (mvT C.2.1 w5) (mvT C.2.1 w6) hy (backOf (W := W) (Q := fun v h L => Q' v h ∧ Fr n0 L) (Kc []) C.2.1 w4 w3 hf hlo) qa qc (g := mkF m pc L stk) rfl (hsz.trans C.2.2.2.1.symm) (Steps.refl _) (argsL := argsL) (rest := r) hlen hst (by simpa using hW) (hb C.2.2.1 hd) (fun _ _ => ⟨rfl, eh, hce, hsl⟩)
  dsimp only [Pt.U, Pt.locs, Pt.cells, Pt.slots] at X' st hQ l' y' z'
  subst l' y' z'
  exact (kk T' T'.heap v hQ.1 ⟨_, X', N.app hQ.2, rfl⟩).st fun _ q => st.trans q
theorem g_callP (C : Cx p s m meth c Z own name cod maxL ret) (S : On p l e R s m args below meth c n0 T h k n) {y : MethodName} {bytes : ByteArray} {mx i W sz : Nat} {rt : Option FieldType} {rm : Room} {Q' : Option Value → Heap → Prop} {argsL stk : List Value} (hd : decode cod pc = .ok (.invokevirtual i, 3)) (w1 : (Jvm.Cond.methodLink own i y).before a0 Z = true) (w2 : (Jvm.Cond.instanceMethod y).before a0 Z = true) (wp : (Jvm.Cond.privateMethod y).before a0 Z = true) (wi : (Jvm.Cond.instantiable y.cls sz).before a0 Z = true) (w3 : (Jvm.Cond.initialized y.cls).before a0 Z = true) (w4 : (Jvm.Cond.code y bytes mx rt).before a0 Z = true) (hy : y.cls ≠ "java/lang/invoke/MethodHandle" ∧ y.cls ≠ "java/lang/invoke/VarHandle") (E : Exa Z h a y.cls) (Kc : Con l Z y bytes mx rt rm (.ref a :: argsL).toArray h n0 Q') (hst : stk = argsL.reverse ++ .ref a :: r) (hlen : ∀ sig, parseMethodDescriptor y.desc = some sig → argsL.length = sig.parameters.length) (hsz : L.size = maxL) (hW : (r.map fun v => v.category).sum ≤ W) (hf : rm.frames + 1 ≤ R.frames) (hlo : W + (mx + 11) + rm.locals ≤ R.locals) (hce : k + rm.cells ≤ R.cells) (hsl : n + rm.slots ≤ R.slots) (hp : pc + 3 = pc') (kk : ∀ T' h' v, Q' v h' → On p l e R s m args below meth c n0 T' h' (k + rm.cells) (n + rm.slots) → Gl p e below s R n0 Q T' (mkF m pc' L (v.toList ++ r))) : Gl p e below s R n0 Q T (mkF m pc L stk) := by
  obtain ⟨locs, X, N, eh⟩ := S; subst hp
  obtain ⟨cq, q1, q2⟩ := E.cell
  obtain ⟨c0, k0, i1, i2, i3, i4, -⟩ := Cond.instantiable_spec (mvT (s := s) (args := args) C.2.1 wi)
  have hpr := Cond.privateMethod_at (mvP (s := s) (args := args) C.2.1 wp)
  have hs := selects_self_of_private (args := args) i1 i2 (Bool.or_eq_false_iff.mp i4).1 hpr (mvT C.2.1 w2) hy
  obtain ⟨v, vm1, ⟨T', L1, k1, n1⟩, -, X', ⟨Lc, hQ, l', y', z'⟩, st⟩ := X.privateBack C.1 (y := y) C.2.2.2.2.1 (mvT C.2.1 w1) (mvT C.2.1 w2) hs hpr (mvT C.2.1 w4) hy (backOf (W := W) (Q := fun v h L => Q' v h ∧ Fr n0 L) (Kc []) C.2.1 w4 w3 hf hlo) (g := mkF m pc L stk) rfl (hsz.trans C.2.2.2.1.symm) (Steps.refl _) (a := a) (by rw [eh]; exact q1) q2 (argsL := argsL) (rest := r) hlen hst (by simpa using hW) (hb C.2.2.1 hd) (fun _ _ => ⟨rfl, eh, hce, hsl⟩)
  dsimp only [Pt.U, Pt.locs, Pt.cells, Pt.slots] at X' st hQ l' y' z'
  subst l' y' z'
  exact (kk T' T'.heap v hQ.1 ⟨_, X', N.app hQ.2, rfl⟩).st fun _ q => st.trans q
/-- an array: its length and what each place holds -/
def Ary (Z : State) (h : Heap) (a : Addr) (ty : FieldType) (n : Nat) (f : Nat → Value) : Prop := ∃ c : Cell, Arr Z h a c ty ∧ c.slots.size = n ∧ ∀ i, i < n → c.slots[i]? = some (f i)
variable {ty : FieldType} {N i : Nat} {f : Nat → Value} {v : Value} {sl : Nat} {j x : Int32} {ws : List Addr}
theorem Ary.lt (A : Ary Z h a ty N f) : a < h.size := by obtain ⟨c, A, -⟩ := A; exact A.lt
theorem Ary.ext (A : Ary Z h a ty N f) (E : Ext h h') : Ary Z h' a ty N f := by obtain ⟨c, A, q⟩ := A; exact ⟨c, A.ext E, q⟩
theorem Ary.other (A : Ary Z h a ty N f) (W : Wr h h' b sl v) (q : a ≠ b) : Ary Z h' a ty N f := by obtain ⟨c, A, z⟩ := A; exact ⟨c, A.other W q, z⟩
theorem Ary.keep (A : Ary Z h a ty N f) (K : Keep h h' ws) (q : a ∉ ws) : Ary Z h' a ty N f := by obtain ⟨c, A, z⟩ := A; exact ⟨c, ⟨K.2.1 a c A.1 q, A.2⟩, z⟩
theorem Ary.cg {f' : Nat → Value} (A : Ary Z h a ty N f) (q : ∀ i, i < N → f i = f' i) : Ary Z h a ty N f' := by obtain ⟨c, A, s, z⟩ := A; exact ⟨c, A, s, fun i hi => by rw [← q i hi]; exact z i hi⟩
theorem Ary.same (A : Ary Z h a ty N f) (W : Wr h h' a i v) : Ary Z h' a ty N (fun q => if q = i then v else f q) := by
  obtain ⟨c, A, s, z⟩ := A
  refine ⟨_, A.same W, by rw [sz_set]; exact s, fun q hq => ?_⟩
  by_cases u : q = i
  · subst u; simp [Cell.setSlot, s, hq]
  · simp only [u, if_false]; simp only [Cell.setSlot]; rw [Array.getElem?_setIfInBounds_ne (fun w => u w.symm)]; exact z q hq
theorem idx_nat {c : Cell} (hj : j.toInt = (i : Int)) (hi : i < c.slots.size) : ¬ (j < 0 ∨ c.slots.size ≤ j.toNatClampNeg) ∧ j.toNatClampNeg = i := by
  have e : j.toNatClampNeg = i := by simp only [Int32.toNatClampNeg, hj]; omega
  refine ⟨?_, e⟩
  rw [e, Int32.lt_iff_toInt_lt, hj]
  have : (0 : Int32).toInt = 0 := rfl
  omega
theorem g_iaload (C : Cx p s m meth c Z own name cod maxL ret) (S : On p l e R s m args below meth c n0 T h k n) (hd : decode cod pc = .ok (.iaload, 1)) (A : Ary Z h a .int N f) (hj : j.toInt = (i : Int)) (hi : i < N) (hv : f i = v) (hp : pc + 1 = pc') (kk : Gl p e below s R n0 Q T (mkF m pc' L (v :: r))) : Gl p e below s R n0 Q T (mkF m pc L (.int j :: .ref a :: r)) := by
  obtain ⟨locs, X, N, eh⟩ := S; subst hp
  obtain ⟨cl, A, sz, z⟩ := A
  obtain ⟨q1, q2⟩ := idx_nat (c := cl) hj (by rw [sz]; exact hi)
  exact kk.st fun t q => X.iaload (g := mkF m pc L (.int j :: .ref a :: r)) C.1 (by rw [eh]; exact A.1) (State.isArrayOf_alike C.2.1.alike A.2.1) A.2.2 q1 (by rw [q2, ← hv]; exact z i hi) rfl rfl (hb C.2.2.1 hd) t q
theorem g_laload (C : Cx p s m meth c Z own name cod maxL ret) (S : On p l e R s m args below meth c n0 T h k n) (hd : decode cod pc = .ok (.laload, 1)) (A : Ary Z h a .long N f) (hj : j.toInt = (i : Int)) (hi : i < N) (hv : f i = v) (hp : pc + 1 = pc') (kk : Gl p e below s R n0 Q T (mkF m pc' L (v :: r))) : Gl p e below s R n0 Q T (mkF m pc L (.int j :: .ref a :: r)) := by
  obtain ⟨locs, X, N, eh⟩ := S; subst hp
  obtain ⟨cl, A, sz, z⟩ := A
  obtain ⟨q1, q2⟩ := idx_nat (c := cl) hj (by rw [sz]; exact hi)
  exact kk.st fun t q => X.laload (g := mkF m pc L (.int j :: .ref a :: r)) C.1 (by rw [eh]; exact A.1) (State.isArrayOf_alike C.2.1.alike A.2.1) A.2.2 q1 (by rw [q2, ← hv]; exact z i hi) rfl rfl (hb C.2.2.1 hd) t q
theorem g_caload (C : Cx p s m meth c Z own name cod maxL ret) (S : On p l e R s m args below meth c n0 T h k n) (hd : decode cod pc = .ok (.caload, 1)) (A : Ary Z h a .char N f) (hj : j.toInt = (i : Int)) (hi : i < N) (hv : f i = v) (hp : pc + 1 = pc') (kk : Gl p e below s R n0 Q T (mkF m pc' L (v :: r))) : Gl p e below s R n0 Q T (mkF m pc L (.int j :: .ref a :: r)) := by
  obtain ⟨locs, X, N, eh⟩ := S; subst hp
  obtain ⟨cl, A, sz, z⟩ := A
  obtain ⟨q1, q2⟩ := idx_nat (c := cl) hj (by rw [sz]; exact hi)
  exact kk.st fun t q => X.caload (g := mkF m pc L (.int j :: .ref a :: r)) C.1 (by rw [eh]; exact A.1) (State.isArrayOf_alike C.2.1.alike A.2.1) A.2.2 q1 (by rw [q2, ← hv]; exact z i hi) rfl rfl (hb C.2.2.1 hd) t q
theorem g_saload (C : Cx p s m meth c Z own name cod maxL ret) (S : On p l e R s m args below meth c n0 T h k n) (hd : decode cod pc = .ok (.saload, 1)) (A : Ary Z h a .short N f) (hj : j.toInt = (i : Int)) (hi : i < N) (hv : f i = v) (hp : pc + 1 = pc') (kk : Gl p e below s R n0 Q T (mkF m pc' L (v :: r))) : Gl p e below s R n0 Q T (mkF m pc L (.int j :: .ref a :: r)) := by
  obtain ⟨locs, X, N, eh⟩ := S; subst hp
  obtain ⟨cl, A, sz, z⟩ := A
  obtain ⟨q1, q2⟩ := idx_nat (c := cl) hj (by rw [sz]; exact hi)
  exact kk.st fun t q => X.saload (g := mkF m pc L (.int j :: .ref a :: r)) C.1 (by rw [eh]; exact A.1) (State.isArrayOf_alike C.2.1.alike A.2.1) A.2.2 q1 (by rw [q2, ← hv]; exact z i hi) rfl rfl (hb C.2.2.1 hd) t q
theorem g_baloadB (C : Cx p s m meth c Z own name cod maxL ret) (S : On p l e R s m args below meth c n0 T h k n) (hd : decode cod pc = .ok (.baload, 1)) (A : Ary Z h a .byte N f) (hj : j.toInt = (i : Int)) (hi : i < N) (hv : f i = v) (hp : pc + 1 = pc') (kk : Gl p e below s R n0 Q T (mkF m pc' L (v :: r))) : Gl p e below s R n0 Q T (mkF m pc L (.int j :: .ref a :: r)) := by
  obtain ⟨locs, X, N, eh⟩ := S; subst hp
  obtain ⟨cl, A, sz, z⟩ := A
  obtain ⟨q1, q2⟩ := idx_nat (c := cl) hj (by rw [sz]; exact hi)
  exact kk.st fun t q => X.baloadBytes (g := mkF m pc L (.int j :: .ref a :: r)) C.1 (by rw [eh]; exact A.1) (State.isArrayOf_alike C.2.1.alike A.2.1) A.2.2 q1 (by rw [q2, ← hv]; exact z i hi) rfl rfl (hb C.2.2.1 hd) t q
theorem g_baloadZ (C : Cx p s m meth c Z own name cod maxL ret) (S : On p l e R s m args below meth c n0 T h k n) (hd : decode cod pc = .ok (.baload, 1)) (A : Ary Z h a .boolean N f) (hj : j.toInt = (i : Int)) (hi : i < N) (hv : f i = v) (hp : pc + 1 = pc') (kk : Gl p e below s R n0 Q T (mkF m pc' L (v :: r))) : Gl p e below s R n0 Q T (mkF m pc L (.int j :: .ref a :: r)) := by
  obtain ⟨locs, X, N, eh⟩ := S; subst hp
  obtain ⟨cl, A, sz, z⟩ := A
  obtain ⟨q1, q2⟩ := idx_nat (c := cl) hj (by rw [sz]; exact hi)
  exact kk.st fun t q => X.baloadBooleans (g := mkF m pc L (.int j :: .ref a :: r)) C.1 (by rw [eh]; exact A.1) (State.isArrayOf_alike C.2.1.alike A.2.1) A.2.2 q1 (by rw [q2, ← hv]; exact z i hi) rfl rfl (hb C.2.2.1 hd) t q
theorem g_daload (C : Cx p s m meth c Z own name cod maxL ret) (S : On p l e R s m args below meth c n0 T h k n) (hd : decode cod pc = .ok (.daload, 1)) (A : Ary Z h a .double N f) (hj : j.toInt = (i : Int)) (hi : i < N) (hv : f i = v) (hp : pc + 1 = pc') (kk : Gl p e below s R n0 Q T (mkF m pc' L (v :: r))) : Gl p e below s R n0 Q T (mkF m pc L (.int j :: .ref a :: r)) := by
  obtain ⟨locs, X, N, eh⟩ := S; subst hp
  obtain ⟨cl, A, sz, z⟩ := A
  obtain ⟨q1, q2⟩ := idx_nat (c := cl) hj (by rw [sz]; exact hi)
  exact kk.st fun t q => X.daload (g := mkF m pc L (.int j :: .ref a :: r)) C.1 (by rw [eh]; exact A.1) (State.isArrayOf_alike C.2.1.alike A.2.1) A.2.2 q1 (by rw [q2, ← hv]; exact z i hi) rfl rfl (hb C.2.2.1 hd) t q
theorem g_aaload (C : Cx p s m meth c Z own name cod maxL ret) (S : On p l e R s m args below meth c n0 T h k n) (hd : decode cod pc = .ok (.aaload, 1)) (A : Ary Z h a ty N f) (hty : ty.isReference = true) (hj : j.toInt = (i : Int)) (hi : i < N) (hv : f i = v) (hp : pc + 1 = pc') (kk : Gl p e below s R n0 Q T (mkF m pc' L (v :: r))) : Gl p e below s R n0 Q T (mkF m pc L (.int j :: .ref a :: r)) := by
  obtain ⟨locs, X, N, eh⟩ := S; subst hp
  obtain ⟨cl, A, sz, z⟩ := A
  obtain ⟨q1, q2⟩ := idx_nat (c := cl) hj (by rw [sz]; exact hi)
  exact kk.st fun t q => X.aaload (g := mkF m pc L (.int j :: .ref a :: r)) C.1 (by rw [eh]; exact A.1) (State.isArrayOf_alike C.2.1.alike A.2.1) hty A.2.2 q1 (by rw [q2, ← hv]; exact z i hi) rfl rfl (hb C.2.2.1 hd) t q
theorem g_arraylength (C : Cx p s m meth c Z own name cod maxL ret) (S : On p l e R s m args below meth c n0 T h k n) (hd : decode cod pc = .ok (.arraylength, 1)) (A : Ary Z h a ty N f) (hx : N.toInt32 = x) (hp : pc + 1 = pc') (kk : Gl p e below s R n0 Q T (mkF m pc' L (.int x :: r))) : Gl p e below s R n0 Q T (mkF m pc L (.ref a :: r)) := by
  obtain ⟨locs, X, _, eh⟩ := S; subst hp
  obtain ⟨cl, A, sz, z⟩ := A
  subst hx
  rw [← sz] at kk
  exact kk.st fun t q => X.arraylength (g := mkF m pc L (.ref a :: r)) C.1 (by rw [eh]; exact A.1) (State.isArrayOf_alike C.2.1.alike A.2.1) rfl rfl (hb C.2.2.1 hd) t q
theorem g_iastore (C : Cx p s m meth c Z own name cod maxL ret) (S : On p l e R s m args below meth c n0 T h k n) {y : Int32} (hd : decode cod pc = .ok (.iastore, 1)) (A : Ary Z h a .int N f) (hj : j.toInt = (i : Int)) (hi : i < N) (ga : n0 ≤ a) (hp : pc + 1 = pc') (kk : ∀ T' h', On p l e R s m args below meth c n0 T' h' k n → Wr h h' a i (.int y) → Ary Z h' a .int N (fun q => if q = i then .int y else f q) → Gl p e below s R n0 Q T' (mkF m pc' L r)) : Gl p e below s R n0 Q T (mkF m pc L (.int y :: .int j :: .ref a :: r)) := by
  obtain ⟨locs, X, N, eh⟩ := S; subst hp
  have A0 := A
  obtain ⟨cl, A, sz, z⟩ := A
  obtain ⟨q1, q2⟩ := idx_nat (c := cl) hj (by rw [sz]; exact hi)
  obtain ⟨T', h', X', eT, W, st⟩ := stI X C.1 C.2.1 eh A q1 (g := mkF m pc L (.int y :: .int j :: .ref a :: r)) rfl rfl (hb C.2.2.1 hd)
  have N' := Fr.snoc X' N ga
  rw [q2] at W
  exact (kk T' h' ⟨_, X', N', eT⟩ W (A0.same W)).st st
theorem g_lastore (C : Cx p s m meth c Z own name cod maxL ret) (S : On p l e R s m args below meth c n0 T h k n) {y : Int64} (hd : decode cod pc = .ok (.lastore, 1)) (A : Ary Z h a .long N f) (hj : j.toInt = (i : Int)) (hi : i < N) (ga : n0 ≤ a) (hp : pc + 1 = pc') (kk : ∀ T' h', On p l e R s m args below meth c n0 T' h' k n → Wr h h' a i (.long y) → Ary Z h' a .long N (fun q => if q = i then .long y else f q) → Gl p e below s R n0 Q T' (mkF m pc' L r)) : Gl p e below s R n0 Q T (mkF m pc L (.long y :: .int j :: .ref a :: r)) := by
  obtain ⟨locs, X, N, eh⟩ := S; subst hp
  have A0 := A
  obtain ⟨cl, A, sz, z⟩ := A
  obtain ⟨q1, q2⟩ := idx_nat (c := cl) hj (by rw [sz]; exact hi)
  obtain ⟨T', h', X', eT, W, st⟩ := stJ X C.1 C.2.1 eh A q1 (g := mkF m pc L (.long y :: .int j :: .ref a :: r)) rfl rfl (hb C.2.2.1 hd)
  have N' := Fr.snoc X' N ga
  rw [q2] at W
  exact (kk T' h' ⟨_, X', N', eT⟩ W (A0.same W)).st st
theorem g_castore (C : Cx p s m meth c Z own name cod maxL ret) (S : On p l e R s m args below meth c n0 T h k n) {y : Int32} (hd : decode cod pc = .ok (.castore, 1)) (A : Ary Z h a .char N f) (hj : j.toInt = (i : Int)) (hi : i < N) (ga : n0 ≤ a) (hp : pc + 1 = pc') (kk : ∀ T' h', On p l e R s m args below meth c n0 T' h' k n → Wr h h' a i (.int (nar .char y)) → Ary Z h' a .char N (fun q => if q = i then .int (nar .char y) else f q) → Gl p e below s R n0 Q T' (mkF m pc' L r)) : Gl p e below s R n0 Q T (mkF m pc L (.int y :: .int j :: .ref a :: r)) := by
  obtain ⟨locs, X, N, eh⟩ := S; subst hp
  have A0 := A
  obtain ⟨cl, A, sz, z⟩ := A
  obtain ⟨q1, q2⟩ := idx_nat (c := cl) hj (by rw [sz]; exact hi)
  obtain ⟨T', h', X', eT, W, st⟩ := stC X C.1 C.2.1 eh A q1 (g := mkF m pc L (.int y :: .int j :: .ref a :: r)) rfl rfl (hb C.2.2.1 hd)
  have N' := Fr.snoc X' N ga
  rw [q2] at W
  exact (kk T' h' ⟨_, X', N', eT⟩ W (A0.same W)).st st
theorem g_bastoreB (C : Cx p s m meth c Z own name cod maxL ret) (S : On p l e R s m args below meth c n0 T h k n) {y : Int32} (hd : decode cod pc = .ok (.bastore, 1)) (A : Ary Z h a .byte N f) (hj : j.toInt = (i : Int)) (hi : i < N) (ga : n0 ≤ a) (hp : pc + 1 = pc') (kk : ∀ T' h', On p l e R s m args below meth c n0 T' h' k n → Wr h h' a i (.int (nar .byte y)) → Ary Z h' a .byte N (fun q => if q = i then .int (nar .byte y) else f q) → Gl p e below s R n0 Q T' (mkF m pc' L r)) : Gl p e below s R n0 Q T (mkF m pc L (.int y :: .int j :: .ref a :: r)) := by
  obtain ⟨locs, X, N, eh⟩ := S; subst hp
  have A0 := A
  obtain ⟨cl, A, sz, z⟩ := A
  obtain ⟨q1, q2⟩ := idx_nat (c := cl) hj (by rw [sz]; exact hi)
  obtain ⟨T', h', X', eT, W, st⟩ := stB X C.1 C.2.1 eh A q1 (g := mkF m pc L (.int y :: .int j :: .ref a :: r)) rfl rfl (hb C.2.2.1 hd)
  have N' := Fr.snoc X' N ga
  rw [q2] at W
  exact (kk T' h' ⟨_, X', N', eT⟩ W (A0.same W)).st st
theorem g_bastoreZ (C : Cx p s m meth c Z own name cod maxL ret) (S : On p l e R s m args below meth c n0 T h k n) {y : Int32} (hd : decode cod pc = .ok (.bastore, 1)) (A : Ary Z h a .boolean N f) (hj : j.toInt = (i : Int)) (hi : i < N) (ga : n0 ≤ a) (hp : pc + 1 = pc') (kk : ∀ T' h', On p l e R s m args below meth c n0 T' h' k n → Wr h h' a i (.int (nar .boolean y)) → Ary Z h' a .boolean N (fun q => if q = i then .int (nar .boolean y) else f q) → Gl p e below s R n0 Q T' (mkF m pc' L r)) : Gl p e below s R n0 Q T (mkF m pc L (.int y :: .int j :: .ref a :: r)) := by
  obtain ⟨locs, X, N, eh⟩ := S; subst hp
  have A0 := A
  obtain ⟨cl, A, sz, z⟩ := A
  obtain ⟨q1, q2⟩ := idx_nat (c := cl) hj (by rw [sz]; exact hi)
  obtain ⟨T', h', X', eT, W, st⟩ := stZ X C.1 C.2.1 eh A q1 (g := mkF m pc L (.int y :: .int j :: .ref a :: r)) rfl rfl (hb C.2.2.1 hd)
  have N' := Fr.snoc X' N ga
  rw [q2] at W
  exact (kk T' h' ⟨_, X', N', eT⟩ W (A0.same W)).st st
theorem g_dastore (C : Cx p s m meth c Z own name cod maxL ret) (S : On p l e R s m args below meth c n0 T h k n) {y : UInt64} (hd : decode cod pc = .ok (.dastore, 1)) (A : Ary Z h a .double N f) (hj : j.toInt = (i : Int)) (hi : i < N) (ga : n0 ≤ a) (hp : pc + 1 = pc') (kk : ∀ T' h', On p l e R s m args below meth c n0 T' h' k n → Wr h h' a i (.double y) → Ary Z h' a .double N (fun q => if q = i then .double y else f q) → Gl p e below s R n0 Q T' (mkF m pc' L r)) : Gl p e below s R n0 Q T (mkF m pc L (.double y :: .int j :: .ref a :: r)) := by
  obtain ⟨locs, X, N, eh⟩ := S; subst hp
  have A0 := A
  obtain ⟨cl, A, sz, z⟩ := A
  obtain ⟨q1, q2⟩ := idx_nat (c := cl) hj (by rw [sz]; exact hi)
  obtain ⟨T', h', X', eT, W, st⟩ := stD X C.1 C.2.1 eh A q1 (g := mkF m pc L (.double y :: .int j :: .ref a :: r)) rfl rfl (hb C.2.2.1 hd)
  have N' := Fr.snoc X' N ga
  rw [q2] at W
  exact (kk T' h' ⟨_, X', N', eT⟩ W (A0.same W)).st st
theorem g_newarray (C : Cx p s m meth c Z own name cod maxL ret) (S : On p l e R s m args below meth c n0 T h k n) {aty : ArrayType} {cap : Nat} (hd : decode cod pc = .ok (.newarray aty, 2)) (w : (Jvm.Cond.arrayClass (newarray.typeOf aty)).before a0 Z = true) (hj : j.toInt = (N : Int)) (hcap : N ≤ cap) (hbig : cap * 8 ≤ 536870912) (hc : k + 1 ≤ R.cells) (hl : n + cap ≤ R.slots) (hp : pc + 2 = pc') (kk : ∀ T' h' a, On p l e R s m args below meth c n0 T' h' (k + 1) (n + cap) → a = h.size → Ext h h' → Ary Z h' a (newarray.typeOf aty) N (fun _ => defaultValue (newarray.typeOf aty)) → Gl p e below s R n0 Q T' (mkF m pc' L (.ref a :: r))) : Gl p e below s R n0 Q T (mkF m pc L (.int j :: r)) := by
  obtain ⟨locs, X, Nn, eh⟩ := S; subst hp
  have e1 : j.toNatClampNeg = N := by simp only [Int32.toNatClampNeg, hj]; omega
  have e2 : ¬ j < 0 := by rw [Int32.lt_iff_toInt_lt, hj]; have : (0 : Int32).toInt = 0 := rfl; omega
  obtain ⟨T', h', cA, X', eT, E, A, st⟩ := newP X C.1 C.2.1 w eh (g := mkF m pc L (.int j :: r)) rfl (hb C.2.2.1 hd) rfl e2 (cap := cap) (by rw [e1]; exact hcap) hbig hc hl
  refine (kk T' h' h.size ⟨_, X', Nn, eT⟩ rfl E ⟨_, A, by rw [sz_new]; exact e1, fun i hi => ?_⟩).st st
  simp [newA, e1, hi]
theorem ge_of {z : Nat} (e1 : a = z) (q : n0 ≤ z) : n0 ≤ a := e1 ▸ q
theorem ne_new (e1 : b = h.size) (q : a < h.size) : a ≠ b := fun e => by rw [e, e1] at q; exact Nat.lt_irrefl _ q
end OwnKit
def own_z (p : Int32) : Int32 := if p = 0 then 1 else 0
theorem own_z1 (p : Int32) : own_z p &&& 1 = own_z p := by unfold own_z; split <;> decide
theorem dp_0 : decode method_2_code 0 = .ok (.iload_n 0, 1) := by decide +kernel
theorem dp_1 : decode method_2_code 1 = .ok (.ifCond .ne 10, 3) := by decide +kernel
theorem dp_4 : decode method_2_code 4 = .ok (.getstatic 7, 3) := by decide +kernel
theorem dp_7 : decode method_2_code 7 = .ok (.astore_n 1, 1) := by decide +kernel
theorem dp_8 : decode method_2_code 8 = .ok (.goto 93, 3) := by decide +kernel
theorem dp_101 : decode method_2_code 101 = .ok (.aload_n 1, 1) := by decide +kernel
theorem dp_102 : decode method_2_code 102 = .ok (.areturn, 1) := by decide +kernel
set_option maxRecDepth 65536 in
set_option maxHeartbeats 40000000 in
theorem c_pick0 (l : Launch) (Z : State) (a0 : Array Value) (hw : ∀ d ∈ tables_1, d.before a0 Z = true)  (h0 : Heap) (n0 : Nat) (w0 : Addr) (S_COUNT : Sta Z h0 "com/example/upupa/upupa/expr/BuiltInFunction" "COUNT" "Lcom/example/upupa/upupa/expr/BuiltInFunction;" (.ref w0)) :
    Con l Z (⟨"com/example/upupa/upupa/expr/BuiltInFunctionReadsFocusPinLaw", "pick", "(I)Lcom/example/upupa/upupa/expr/BuiltInFunction;"⟩ : MethodName) method_2_code 2 (some (.object "com/example/upupa/upupa/expr/BuiltInFunction")) ({ frames := 0, cells := 0, slots := 0, locals := 0 } : Room) #[(.int (0 : Int32))] h0 n0 (fun v h => v = some (.ref w0) ∧ h = h0) := by
  refine Con.of (plainFor_of_name (by first | (simp [plainName, overriddenIn]; done) | decide +kernel)) (L0 := #[.val (.int (0 : Int32)), .unset]) (fun m => by first | (simp [entryFrame, mkF, argsToLocals, Value.category]; done) | rfl) ?_
  intro p e s m below meth c T C S
  refine g_iloadN C S dp_0 (pc' := 1) rfl rfl ?_
  refine g_if_ne C S dp_1 (pc' := 11) (pf := 4) (by decide) (by decide) rfl (fun hc1 => absurd rfl hc1) (fun hc1 => ?_)
  refine g_getS C S dp_4 (host := "") (Or.inl (hw _ (List.mem_of_getElem? (i := 5) rfl))) Via.refl S_COUNT (pc' := 7) rfl (fun T1 S => ?_)
  refine g_astoreN C S dp_7 (pc' := 8) rfl rfl (L' := #[.val (.int (0 : Int32)), .val (.ref w0)]) rfl ?_
  refine g_goto C S dp_8 (pc' := 101) (by decide) (by decide) ?_
  refine g_aloadN C S dp_101 (pc' := 102) rfl rfl rfl ?_
  exact g_retA C S dp_102 rfl rfl rfl (by decide) (by decide) (⟨rfl, rfl⟩)
theorem de_0 : decode method_3_code 0 = .ok (.iload_n 0, 1) := by decide +kernel
theorem de_1 : decode method_3_code 1 = .ok (.bipush 7, 2) := by decide +kernel
theorem de_3 : decode method_3_code 3 = .ok (.if_icmp .eq 9, 3) := by decide +kernel
theorem de_6 : decode method_3_code 6 = .ok (.iload_n 0, 1) := by decide +kernel
theorem de_7 : decode method_3_code 7 = .ok (.bipush 8, 2) := by decide +kernel
theorem de_9 : decode method_3_code 9 = .ok (.if_icmp .ne 8, 3) := by decide +kernel
theorem de_17 : decode method_3_code 17 = .ok (.iload_n 0, 1) := by decide +kernel
theorem de_18 : decode method_3_code 18 = .ok (.iconst 1, 1) := by decide +kernel
theorem de_19 : decode method_3_code 19 = .ok (.if_icmp .ne 16, 3) := by decide +kernel
theorem de_35 : decode method_3_code 35 = .ok (.iconst 0, 1) := by decide +kernel
theorem de_36 : decode method_3_code 36 = .ok (.istore_n 2, 1) := by decide +kernel
theorem de_37 : decode method_3_code 37 = .ok (.iload_n 2, 1) := by decide +kernel
theorem de_38 : decode method_3_code 38 = .ok (.ireturn, 1) := by decide +kernel
set_option maxRecDepth 65536 in
set_option maxHeartbeats 40000000 in
theorem c_exp0 (l : Launch) (Z : State) (a0 : Array Value) (hw : ∀ d ∈ tables_1, d.before a0 Z = true) (p2 : Int32) (h0 : Heap) (n0 : Nat) :
    Con l Z (⟨"com/example/upupa/upupa/expr/BuiltInFunctionReadsFocusPinLaw", "expected", "(II)Z"⟩ : MethodName) method_3_code 3 (some .boolean) ({ frames := 0, cells := 0, slots := 0, locals := 0 } : Room) #[(.int (0 : Int32)), (.int p2)] h0 n0 (fun v h => v = some (.int 0) ∧ h = h0) := by
  refine Con.of (plainFor_of_name (by first | (simp [plainName, overriddenIn]; done) | decide +kernel)) (L0 := #[.val (.int (0 : Int32)), .val (.int p2), .unset]) (fun m => by first | (simp [entryFrame, mkF, argsToLocals, Value.category]; done) | rfl) ?_
  intro p e s m below meth c T C S
  refine g_iloadN C S de_0 (pc' := 1) rfl rfl ?_
  refine g_bipush C S (7 : Int32) de_1 (pc' := 3) rfl rfl ?_
  refine g_icmp_eq C S de_3 (pc' := 12) (pf := 6) (by decide) (by decide) rfl (fun hc3 => absurd hc3 (by decide)) (fun hc3 => ?_)
  refine g_iloadN C S de_6 (pc' := 7) rfl rfl ?_
  refine g_bipush C S (8 : Int32) de_7 (pc' := 9) rfl rfl ?_
  refine g_icmp_ne C S de_9 (pc' := 17) (pf := 12) (by decide) (by decide) rfl (fun hc9 => ?_) (fun hc9 => absurd hc9 (by decide))
  refine g_iloadN C S de_17 (pc' := 18) rfl rfl ?_
  refine g_iconst C S (1 : Int32) de_18 (pc' := 19) rfl rfl ?_
  refine g_icmp_ne C S de_19 (pc' := 35) (pf := 22) (by decide) (by decide) rfl (fun hc19 => ?_) (fun hc19 => absurd hc19 (by decide))
  refine g_iconst C S (0 : Int32) de_35 (pc' := 36) rfl rfl ?_
  refine g_istoreN C S de_36 (pc' := 37) rfl (L' := #[.val (.int (0 : Int32)), .val (.int p2), .val (.int (0 : Int32))]) rfl ?_
  refine g_iloadN C S de_37 (pc' := 38) rfl rfl ?_
  exact g_retZ C S de_38 (by decide) (by decide) (by decide) (⟨rfl, rfl⟩)
theorem dr_0 : decode prog_4_method_7_code 0 = .ok (.aload_n 0, 1) := by decide +kernel
theorem dr_1 : decode prog_4_method_7_code 1 = .ok (.getstatic 25, 3) := by decide +kernel
theorem dr_4 : decode prog_4_method_7_code 4 = .ok (.if_acmp .eq 21, 3) := by decide +kernel
theorem dr_7 : decode prog_4_method_7_code 7 = .ok (.aload_n 0, 1) := by decide +kernel
theorem dr_8 : decode prog_4_method_7_code 8 = .ok (.getstatic 28, 3) := by decide +kernel
theorem dr_11 : decode prog_4_method_7_code 11 = .ok (.if_acmp .eq 14, 3) := by decide +kernel
theorem dr_14 : decode prog_4_method_7_code 14 = .ok (.aload_n 0, 1) := by decide +kernel
theorem dr_15 : decode prog_4_method_7_code 15 = .ok (.getstatic 7, 3) := by decide +kernel
theorem dr_18 : decode prog_4_method_7_code 18 = .ok (.if_acmp .ne 11, 3) := by decide +kernel
theorem dr_29 : decode prog_4_method_7_code 29 = .ok (.iconst 0, 1) := by decide +kernel
theorem dr_30 : decode prog_4_method_7_code 30 = .ok (.ireturn, 1) := by decide +kernel
set_option maxRecDepth 65536 in
set_option maxHeartbeats 40000000 in
theorem c_rf0 (l : Launch) (Z : State) (a0 : Array Value) (hw : ∀ d ∈ tables_1, d.before a0 Z = true) (w0 : Addr) (p2 : Int32) (h0 : Heap) (n0 : Nat) (w1 : Addr) (w7 : Addr) (w8 : Addr) (S_LAST : Sta Z h0 "com/example/upupa/upupa/expr/BuiltInFunction" "LAST" "Lcom/example/upupa/upupa/expr/BuiltInFunction;" (.ref w7)) (S_POSITION : Sta Z h0 "com/example/upupa/upupa/expr/BuiltInFunction" "POSITION" "Lcom/example/upupa/upupa/expr/BuiltInFunction;" (.ref w8)) (S_STRING : Sta Z h0 "com/example/upupa/upupa/expr/BuiltInFunction" "STRING" "Lcom/example/upupa/upupa/expr/BuiltInFunction;" (.ref w1)) (nw0_w1 : w0 ≠ w1) (nw0_w7 : w0 ≠ w7) (nw0_w8 : w0 ≠ w8) :
    Con l Z (⟨"com/example/upupa/upupa/expr/BuiltInFunction", "readsFocus", "(I)Z"⟩ : MethodName) prog_4_method_7_code 2 (some .boolean) ({ frames := 0, cells := 0, slots := 0, locals := 0 } : Room) #[(.ref w0), (.int p2)] h0 n0 (fun v h => v = some (.int 0) ∧ h = h0) := by
  refine Con.of (plainFor_of_name (by first | (simp [plainName, overriddenIn]; done) | decide +kernel)) (L0 := #[.val (.ref w0), .val (.int p2)]) (fun m => by first | (simp [entryFrame, mkF, argsToLocals, Value.category]; done) | rfl) ?_
  intro p e s m below meth c T C S
  refine g_aloadN C S dr_0 (pc' := 1) rfl rfl rfl ?_
  refine g_getS C S dr_1 (host := "") (Or.inl (hw _ (List.mem_of_getElem? (i := 13) rfl))) Via.refl S_LAST (pc' := 4) rfl (fun T2 S => ?_)
  refine g_acmp_eq C S rfl rfl dr_4 (pc' := 25) (pf := 7) (by decide) (by decide) rfl (fun hc4 => absurd (Value.ref.inj hc4) nw0_w7) (fun hc4 => ?_)
  refine g_aloadN C S dr_7 (pc' := 8) rfl rfl rfl ?_
  refine g_getS C S dr_8 (host := "") (Or.inl (hw _ (List.mem_of_getElem? (i := 15) rfl))) Via.refl S_POSITION (pc' := 11) rfl (fun T3 S => ?_)
  refine g_acmp_eq C S rfl rfl dr_11 (pc' := 25) (pf := 14) (by decide) (by decide) rfl (fun hc11 => absurd (Value.ref.inj hc11) nw0_w8) (fun hc11 => ?_)
  refine g_aloadN C S dr_14 (pc' := 15) rfl rfl rfl ?_
  refine g_getS C S dr_15 (host := "") (Or.inl (hw _ (List.mem_of_getElem? (i := 17) rfl))) Via.refl S_STRING (pc' := 18) rfl (fun T4 S => ?_)
  refine g_acmp_ne C S rfl rfl dr_18 (pc' := 29) (pf := 21) (by decide) (by decide) rfl (fun hc18 => ?_) (fun hc18 => absurd (Value.ref.inj hc18) nw0_w1)
  refine g_iconst C S (0 : Int32) dr_29 (pc' := 30) rfl rfl ?_
  exact g_retZ C S dr_30 (by decide) (by decide) (by decide) (⟨rfl, rfl⟩)
theorem dp_11 : decode method_2_code 11 = .ok (.iload_n 0, 1) := by decide +kernel
theorem dp_12 : decode method_2_code 12 = .ok (.iconst 1, 1) := by decide +kernel
theorem dp_13 : decode method_2_code 13 = .ok (.if_icmp .ne 10, 3) := by decide +kernel
theorem dp_16 : decode method_2_code 16 = .ok (.getstatic 13, 3) := by decide +kernel
theorem dp_19 : decode method_2_code 19 = .ok (.astore_n 1, 1) := by decide +kernel
theorem dp_20 : decode method_2_code 20 = .ok (.goto 81, 3) := by decide +kernel
set_option maxRecDepth 65536 in
set_option maxHeartbeats 40000000 in
theorem c_pick1 (l : Launch) (Z : State) (a0 : Array Value) (hw : ∀ d ∈ tables_1, d.before a0 Z = true)  (h0 : Heap) (n0 : Nat) (w1 : Addr) (S_STRING : Sta Z h0 "com/example/upupa/upupa/expr/BuiltInFunction" "STRING" "Lcom/example/upupa/upupa/expr/BuiltInFunction;" (.ref w1)) :
    Con l Z (⟨"com/example/upupa/upupa/expr/BuiltInFunctionReadsFocusPinLaw", "pick", "(I)Lcom/example/upupa/upupa/expr/BuiltInFunction;"⟩ : MethodName) method_2_code 2 (some (.object "com/example/upupa/upupa/expr/BuiltInFunction")) ({ frames := 0, cells := 0, slots := 0, locals := 0 } : Room) #[(.int (1 : Int32))] h0 n0 (fun v h => v = some (.ref w1) ∧ h = h0) := by
  refine Con.of (plainFor_of_name (by first | (simp [plainName, overriddenIn]; done) | decide +kernel)) (L0 := #[.val (.int (1 : Int32)), .unset]) (fun m => by first | (simp [entryFrame, mkF, argsToLocals, Value.category]; done) | rfl) ?_
  intro p e s m below meth c T C S
  refine g_iloadN C S dp_0 (pc' := 1) rfl rfl ?_
  refine g_if_ne C S dp_1 (pc' := 11) (pf := 4) (by decide) (by decide) rfl (fun hc1 => ?_) (fun hc1 => absurd hc1 (by decide))
  refine g_iloadN C S dp_11 (pc' := 12) rfl rfl ?_
  refine g_iconst C S (1 : Int32) dp_12 (pc' := 13) rfl rfl ?_
  refine g_icmp_ne C S dp_13 (pc' := 23) (pf := 16) (by decide) (by decide) rfl (fun hc13 => absurd rfl hc13) (fun hc13 => ?_)
  refine g_getS C S dp_16 (host := "") (Or.inl (hw _ (List.mem_of_getElem? (i := 22) rfl))) Via.refl S_STRING (pc' := 19) rfl (fun T5 S => ?_)
  refine g_astoreN C S dp_19 (pc' := 20) rfl rfl (L' := #[.val (.int (1 : Int32)), .val (.ref w1)]) rfl ?_
  refine g_goto C S dp_20 (pc' := 101) (by decide) (by decide) ?_
  refine g_aloadN C S dp_101 (pc' := 102) rfl rfl rfl ?_
  exact g_retA C S dp_102 rfl rfl rfl (by decide) (by decide) (⟨rfl, rfl⟩)
theorem de_22 : decode method_3_code 22 = .ok (.iload_n 1, 1) := by decide +kernel
theorem de_23 : decode method_3_code 23 = .ok (.ifCond .ne 7, 3) := by decide +kernel
theorem de_26 : decode method_3_code 26 = .ok (.iconst 1, 1) := by decide +kernel
theorem de_27 : decode method_3_code 27 = .ok (.goto 4, 3) := by decide +kernel
theorem de_30 : decode method_3_code 30 = .ok (.iconst 0, 1) := by decide +kernel
theorem de_31 : decode method_3_code 31 = .ok (.istore_n 2, 1) := by decide +kernel
theorem de_32 : decode method_3_code 32 = .ok (.goto 5, 3) := by decide +kernel
set_option maxRecDepth 65536 in
set_option maxHeartbeats 40000000 in
theorem c_exp1 (l : Launch) (Z : State) (a0 : Array Value) (hw : ∀ d ∈ tables_1, d.before a0 Z = true) (p2 : Int32) (h0 : Heap) (n0 : Nat) :
    Con l Z (⟨"com/example/upupa/upupa/expr/BuiltInFunctionReadsFocusPinLaw", "expected", "(II)Z"⟩ : MethodName) method_3_code 3 (some .boolean) ({ frames := 0, cells := 0, slots := 0, locals := 0 } : Room) #[(.int (1 : Int32)), (.int p2)] h0 n0 (fun v h => v = some (.int (own_z p2)) ∧ h = h0) := by
  refine Con.of (plainFor_of_name (by first | (simp [plainName, overriddenIn]; done) | decide +kernel)) (L0 := #[.val (.int (1 : Int32)), .val (.int p2), .unset]) (fun m => by first | (simp [entryFrame, mkF, argsToLocals, Value.category]; done) | rfl) ?_
  intro p e s m below meth c T C S
  refine g_iloadN C S de_0 (pc' := 1) rfl rfl ?_
  refine g_bipush C S (7 : Int32) de_1 (pc' := 3) rfl rfl ?_
  refine g_icmp_eq C S de_3 (pc' := 12) (pf := 6) (by decide) (by decide) rfl (fun hc3 => absurd hc3 (by decide)) (fun hc3 => ?_)
  refine g_iloadN C S de_6 (pc' := 7) rfl rfl ?_
  refine g_bipush C S (8 : Int32) de_7 (pc' := 9) rfl rfl ?_
  refine g_icmp_ne C S de_9 (pc' := 17) (pf := 12) (by decide) (by decide) rfl (fun hc9 => ?_) (fun hc9 => absurd hc9 (by decide))
  refine g_iloadN C S de_17 (pc' := 18) rfl rfl ?_
  refine g_iconst C S (1 : Int32) de_18 (pc' := 19) rfl rfl ?_
  refine g_icmp_ne C S de_19 (pc' := 35) (pf := 22) (by decide) (by decide) rfl (fun hc19 => absurd rfl hc19) (fun hc19 => ?_)
  refine g_iloadN C S de_22 (pc' := 23) rfl rfl ?_
  refine g_if_ne C S de_23 (pc' := 30) (pf := 26) (by decide) (by decide) rfl (fun hc23 => ?_) (fun hc23 => ?_)
  · refine g_iconst C S (0 : Int32) de_30 (pc' := 31) rfl rfl ?_
    refine g_istoreN C S de_31 (pc' := 32) rfl (L' := #[.val (.int (1 : Int32)), .val (.int p2), .val (.int (0 : Int32))]) rfl ?_
    refine g_goto C S de_32 (pc' := 37) (by decide) (by decide) ?_
    refine g_iloadN C S de_37 (pc' := 38) rfl rfl ?_
    exact g_retZ C S de_38 (by decide) (by decide) (by decide) (⟨by unfold own_z; rw [if_neg hc23], rfl⟩)
  · refine g_iconst C S (1 : Int32) de_26 (pc' := 27) rfl rfl ?_
    refine g_goto C S de_27 (pc' := 31) (by decide) (by decide) ?_
    refine g_istoreN C S de_31 (pc' := 32) rfl (L' := #[.val (.int (1 : Int32)), .val (.int p2), .val (.int (1 : Int32))]) rfl ?_
    refine g_goto C S de_32 (pc' := 37) (by decide) (by decide) ?_
    refine g_iloadN C S de_37 (pc' := 38) rfl rfl ?_
    exact g_retZ C S de_38 (by decide) (by decide) (by decide) (⟨by unfold own_z; rw [if_pos hc23], rfl⟩)
theorem dr_21 : decode prog_4_method_7_code 21 = .ok (.iload_n 1, 1) := by decide +kernel
theorem dr_22 : decode prog_4_method_7_code 22 = .ok (.ifCond .ne 7, 3) := by decide +kernel
theorem dr_25 : decode prog_4_method_7_code 25 = .ok (.iconst 1, 1) := by decide +kernel
theorem dr_26 : decode prog_4_method_7_code 26 = .ok (.goto 4, 3) := by decide +kernel
set_option maxRecDepth 65536 in
set_option maxHeartbeats 40000000 in
theorem c_rf1 (l : Launch) (Z : State) (a0 : Array Value) (hw : ∀ d ∈ tables_1, d.before a0 Z = true) (w1 : Addr) (p2 : Int32) (h0 : Heap) (n0 : Nat) (w7 : Addr) (w8 : Addr) (S_LAST : Sta Z h0 "com/example/upupa/upupa/expr/BuiltInFunction" "LAST" "Lcom/example/upupa/upupa/expr/BuiltInFunction;" (.ref w7)) (S_POSITION : Sta Z h0 "com/example/upupa/upupa/expr/BuiltInFunction" "POSITION" "Lcom/example/upupa/upupa/expr/BuiltInFunction;" (.ref w8)) (S_STRING : Sta Z h0 "com/example/upupa/upupa/expr/BuiltInFunction" "STRING" "Lcom/example/upupa/upupa/expr/BuiltInFunction;" (.ref w1)) (nw1_w7 : w1 ≠ w7) (nw1_w8 : w1 ≠ w8) :
    Con l Z (⟨"com/example/upupa/upupa/expr/BuiltInFunction", "readsFocus", "(I)Z"⟩ : MethodName) prog_4_method_7_code 2 (some .boolean) ({ frames := 0, cells := 0, slots := 0, locals := 0 } : Room) #[(.ref w1), (.int p2)] h0 n0 (fun v h => v = some (.int (own_z p2)) ∧ h = h0) := by
  refine Con.of (plainFor_of_name (by first | (simp [plainName, overriddenIn]; done) | decide +kernel)) (L0 := #[.val (.ref w1), .val (.int p2)]) (fun m => by first | (simp [entryFrame, mkF, argsToLocals, Value.category]; done) | rfl) ?_
  intro p e s m below meth c T C S
  refine g_aloadN C S dr_0 (pc' := 1) rfl rfl rfl ?_
  refine g_getS C S dr_1 (host := "") (Or.inl (hw _ (List.mem_of_getElem? (i := 13) rfl))) Via.refl S_LAST (pc' := 4) rfl (fun T6 S => ?_)
  refine g_acmp_eq C S rfl rfl dr_4 (pc' := 25) (pf := 7) (by decide) (by decide) rfl (fun hc4 => absurd (Value.ref.inj hc4) nw1_w7) (fun hc4 => ?_)
  refine g_aloadN C S dr_7 (pc' := 8) rfl rfl rfl ?_
  refine g_getS C S dr_8 (host := "") (Or.inl (hw _ (List.mem_of_getElem? (i := 15) rfl))) Via.refl S_POSITION (pc' := 11) rfl (fun T7 S => ?_)
  refine g_acmp_eq C S rfl rfl dr_11 (pc' := 25) (pf := 14) (by decide) (by decide) rfl (fun hc11 => absurd (Value.ref.inj hc11) nw1_w8) (fun hc11 => ?_)
  refine g_aloadN C S dr_14 (pc' := 15) rfl rfl rfl ?_
  refine g_getS C S dr_15 (host := "") (Or.inl (hw _ (List.mem_of_getElem? (i := 17) rfl))) Via.refl S_STRING (pc' := 18) rfl (fun T8 S => ?_)
  refine g_acmp_ne C S rfl rfl dr_18 (pc' := 29) (pf := 21) (by decide) (by decide) rfl (fun hc18 => absurd rfl hc18) (fun hc18 => ?_)
  refine g_iloadN C S dr_21 (pc' := 22) rfl rfl ?_
  refine g_if_ne C S dr_22 (pc' := 29) (pf := 25) (by decide) (by decide) rfl (fun hc22 => ?_) (fun hc22 => ?_)
  · refine g_iconst C S (0 : Int32) dr_29 (pc' := 30) rfl rfl ?_
    exact g_retZ C S dr_30 (by decide) (by decide) (by decide) (⟨by unfold own_z; rw [if_neg hc22], rfl⟩)
  · refine g_iconst C S (1 : Int32) dr_25 (pc' := 26) rfl rfl ?_
    refine g_goto C S dr_26 (pc' := 30) (by decide) (by decide) ?_
    exact g_retZ C S dr_30 (by decide) (by decide) (by decide) (⟨by unfold own_z; rw [if_pos hc22], rfl⟩)
theorem dp_23 : decode method_2_code 23 = .ok (.iload_n 0, 1) := by decide +kernel
theorem dp_24 : decode method_2_code 24 = .ok (.iconst 2, 1) := by decide +kernel
theorem dp_25 : decode method_2_code 25 = .ok (.if_icmp .ne 10, 3) := by decide +kernel
theorem dp_28 : decode method_2_code 28 = .ok (.getstatic 16, 3) := by decide +kernel
theorem dp_31 : decode method_2_code 31 = .ok (.astore_n 1, 1) := by decide +kernel
theorem dp_32 : decode method_2_code 32 = .ok (.goto 69, 3) := by decide +kernel
set_option maxRecDepth 65536 in
set_option maxHeartbeats 40000000 in
theorem c_pick2 (l : Launch) (Z : State) (a0 : Array Value) (hw : ∀ d ∈ tables_1, d.before a0 Z = true)  (h0 : Heap) (n0 : Nat) (w2 : Addr) (S_NOT : Sta Z h0 "com/example/upupa/upupa/expr/BuiltInFunction" "NOT" "Lcom/example/upupa/upupa/expr/BuiltInFunction;" (.ref w2)) :
    Con l Z (⟨"com/example/upupa/upupa/expr/BuiltInFunctionReadsFocusPinLaw", "pick", "(I)Lcom/example/upupa/upupa/expr/BuiltInFunction;"⟩ : MethodName) method_2_code 2 (some (.object "com/example/upupa/upupa/expr/BuiltInFunction")) ({ frames := 0, cells := 0, slots := 0, locals := 0 } : Room) #[(.int (2 : Int32))] h0 n0 (fun v h => v = some (.ref w2) ∧ h = h0) := by
  refine Con.of (plainFor_of_name (by first | (simp [plainName, overriddenIn]; done) | decide +kernel)) (L0 := #[.val (.int (2 : Int32)), .unset]) (fun m => by first | (simp [entryFrame, mkF, argsToLocals, Value.category]; done) | rfl) ?_
  intro p e s m below meth c T C S
  refine g_iloadN C S dp_0 (pc' := 1) rfl rfl ?_
  refine g_if_ne C S dp_1 (pc' := 11) (pf := 4) (by decide) (by decide) rfl (fun hc1 => ?_) (fun hc1 => absurd hc1 (by decide))
  refine g_iloadN C S dp_11 (pc' := 12) rfl rfl ?_
  refine g_iconst C S (1 : Int32) dp_12 (pc' := 13) rfl rfl ?_
  refine g_icmp_ne C S dp_13 (pc' := 23) (pf := 16) (by decide) (by decide) rfl (fun hc13 => ?_) (fun hc13 => absurd hc13 (by decide))
  refine g_iloadN C S dp_23 (pc' := 24) rfl rfl ?_
  refine g_iconst C S (2 : Int32) dp_24 (pc' := 25) rfl rfl ?_
  refine g_icmp_ne C S dp_25 (pc' := 35) (pf := 28) (by decide) (by decide) rfl (fun hc25 => absurd rfl hc25) (fun hc25 => ?_)
  refine g_getS C S dp_28 (host := "") (Or.inl (hw _ (List.mem_of_getElem? (i := 23) rfl))) Via.refl S_NOT (pc' := 31) rfl (fun T9 S => ?_)
  refine g_astoreN C S dp_31 (pc' := 32) rfl rfl (L' := #[.val (.int (2 : Int32)), .val (.ref w2)]) rfl ?_
  refine g_goto C S dp_32 (pc' := 101) (by decide) (by decide) ?_
  refine g_aloadN C S dp_101 (pc' := 102) rfl rfl rfl ?_
  exact g_retA C S dp_102 rfl rfl rfl (by decide) (by decide) (⟨rfl, rfl⟩)
set_option maxRecDepth 65536 in
set_option maxHeartbeats 40000000 in
theorem c_exp2 (l : Launch) (Z : State) (a0 : Array Value) (hw : ∀ d ∈ tables_1, d.before a0 Z = true) (p2 : Int32) (h0 : Heap) (n0 : Nat) :
    Con l Z (⟨"com/example/upupa/upupa/expr/BuiltInFunctionReadsFocusPinLaw", "expected", "(II)Z"⟩ : MethodName) method_3_code 3 (some .boolean) ({ frames := 0, cells := 0, slots := 0, locals := 0 } : Room) #[(.int (2 : Int32)), (.int p2)] h0 n0 (fun v h => v = some (.int 0) ∧ h = h0) := by
  refine Con.of (plainFor_of_name (by first | (simp [plainName, overriddenIn]; done) | decide +kernel)) (L0 := #[.val (.int (2 : Int32)), .val (.int p2), .unset]) (fun m => by first | (simp [entryFrame, mkF, argsToLocals, Value.category]; done) | rfl) ?_
  intro p e s m below meth c T C S
  refine g_iloadN C S de_0 (pc' := 1) rfl rfl ?_
  refine g_bipush C S (7 : Int32) de_1 (pc' := 3) rfl rfl ?_
  refine g_icmp_eq C S de_3 (pc' := 12) (pf := 6) (by decide) (by decide) rfl (fun hc3 => absurd hc3 (by decide)) (fun hc3 => ?_)
  refine g_iloadN C S de_6 (pc' := 7) rfl rfl ?_
  refine g_bipush C S (8 : Int32) de_7 (pc' := 9) rfl rfl ?_
  refine g_icmp_ne C S de_9 (pc' := 17) (pf := 12) (by decide) (by decide) rfl (fun hc9 => ?_) (fun hc9 => absurd hc9 (by decide))
  refine g_iloadN C S de_17 (pc' := 18) rfl rfl ?_
  refine g_iconst C S (1 : Int32) de_18 (pc' := 19) rfl rfl ?_
  refine g_icmp_ne C S de_19 (pc' := 35) (pf := 22) (by decide) (by decide) rfl (fun hc19 => ?_) (fun hc19 => absurd hc19 (by decide))
  refine g_iconst C S (0 : Int32) de_35 (pc' := 36) rfl rfl ?_
  refine g_istoreN C S de_36 (pc' := 37) rfl (L' := #[.val (.int (2 : Int32)), .val (.int p2), .val (.int (0 : Int32))]) rfl ?_
  refine g_iloadN C S de_37 (pc' := 38) rfl rfl ?_
  exact g_retZ C S de_38 (by decide) (by decide) (by decide) (⟨rfl, rfl⟩)
set_option maxRecDepth 65536 in
set_option maxHeartbeats 40000000 in
theorem c_rf2 (l : Launch) (Z : State) (a0 : Array Value) (hw : ∀ d ∈ tables_1, d.before a0 Z = true) (w2 : Addr) (p2 : Int32) (h0 : Heap) (n0 : Nat) (w1 : Addr) (w7 : Addr) (w8 : Addr) (S_LAST : Sta Z h0 "com/example/upupa/upupa/expr/BuiltInFunction" "LAST" "Lcom/example/upupa/upupa/expr/BuiltInFunction;" (.ref w7)) (S_POSITION : Sta Z h0 "com/example/upupa/upupa/expr/BuiltInFunction" "POSITION" "Lcom/example/upupa/upupa/expr/BuiltInFunction;" (.ref w8)) (S_STRING : Sta Z h0 "com/example/upupa/upupa/expr/BuiltInFunction" "STRING" "Lcom/example/upupa/upupa/expr/BuiltInFunction;" (.ref w1)) (nw2_w1 : w2 ≠ w1) (nw2_w7 : w2 ≠ w7) (nw2_w8 : w2 ≠ w8) :
    Con l Z (⟨"com/example/upupa/upupa/expr/BuiltInFunction", "readsFocus", "(I)Z"⟩ : MethodName) prog_4_method_7_code 2 (some .boolean) ({ frames := 0, cells := 0, slots := 0, locals := 0 } : Room) #[(.ref w2), (.int p2)] h0 n0 (fun v h => v = some (.int 0) ∧ h = h0) := by
  refine Con.of (plainFor_of_name (by first | (simp [plainName, overriddenIn]; done) | decide +kernel)) (L0 := #[.val (.ref w2), .val (.int p2)]) (fun m => by first | (simp [entryFrame, mkF, argsToLocals, Value.category]; done) | rfl) ?_
  intro p e s m below meth c T C S
  refine g_aloadN C S dr_0 (pc' := 1) rfl rfl rfl ?_
  refine g_getS C S dr_1 (host := "") (Or.inl (hw _ (List.mem_of_getElem? (i := 13) rfl))) Via.refl S_LAST (pc' := 4) rfl (fun T10 S => ?_)
  refine g_acmp_eq C S rfl rfl dr_4 (pc' := 25) (pf := 7) (by decide) (by decide) rfl (fun hc4 => absurd (Value.ref.inj hc4) nw2_w7) (fun hc4 => ?_)
  refine g_aloadN C S dr_7 (pc' := 8) rfl rfl rfl ?_
  refine g_getS C S dr_8 (host := "") (Or.inl (hw _ (List.mem_of_getElem? (i := 15) rfl))) Via.refl S_POSITION (pc' := 11) rfl (fun T11 S => ?_)
  refine g_acmp_eq C S rfl rfl dr_11 (pc' := 25) (pf := 14) (by decide) (by decide) rfl (fun hc11 => absurd (Value.ref.inj hc11) nw2_w8) (fun hc11 => ?_)
  refine g_aloadN C S dr_14 (pc' := 15) rfl rfl rfl ?_
  refine g_getS C S dr_15 (host := "") (Or.inl (hw _ (List.mem_of_getElem? (i := 17) rfl))) Via.refl S_STRING (pc' := 18) rfl (fun T12 S => ?_)
  refine g_acmp_ne C S rfl rfl dr_18 (pc' := 29) (pf := 21) (by decide) (by decide) rfl (fun hc18 => ?_) (fun hc18 => absurd (Value.ref.inj hc18) nw2_w1)
  refine g_iconst C S (0 : Int32) dr_29 (pc' := 30) rfl rfl ?_
  exact g_retZ C S dr_30 (by decide) (by decide) (by decide) (⟨rfl, rfl⟩)
theorem dp_35 : decode method_2_code 35 = .ok (.iload_n 0, 1) := by decide +kernel
theorem dp_36 : decode method_2_code 36 = .ok (.iconst 3, 1) := by decide +kernel
theorem dp_37 : decode method_2_code 37 = .ok (.if_icmp .ne 10, 3) := by decide +kernel
theorem dp_40 : decode method_2_code 40 = .ok (.getstatic 19, 3) := by decide +kernel
theorem dp_43 : decode method_2_code 43 = .ok (.astore_n 1, 1) := by decide +kernel
theorem dp_44 : decode method_2_code 44 = .ok (.goto 57, 3) := by decide +kernel
set_option maxRecDepth 65536 in
set_option maxHeartbeats 40000000 in
theorem c_pick3 (l : Launch) (Z : State) (a0 : Array Value) (hw : ∀ d ∈ tables_1, d.before a0 Z = true)  (h0 : Heap) (n0 : Nat) (w3 : Addr) (S_TRUE : Sta Z h0 "com/example/upupa/upupa/expr/BuiltInFunction" "TRUE" "Lcom/example/upupa/upupa/expr/BuiltInFunction;" (.ref w3)) :
    Con l Z (⟨"com/example/upupa/upupa/expr/BuiltInFunctionReadsFocusPinLaw", "pick", "(I)Lcom/example/upupa/upupa/expr/BuiltInFunction;"⟩ : MethodName) method_2_code 2 (some (.object "com/example/upupa/upupa/expr/BuiltInFunction")) ({ frames := 0, cells := 0, slots := 0, locals := 0 } : Room) #[(.int (3 : Int32))] h0 n0 (fun v h => v = some (.ref w3) ∧ h = h0) := by
  refine Con.of (plainFor_of_name (by first | (simp [plainName, overriddenIn]; done) | decide +kernel)) (L0 := #[.val (.int (3 : Int32)), .unset]) (fun m => by first | (simp [entryFrame, mkF, argsToLocals, Value.category]; done) | rfl) ?_
  intro p e s m below meth c T C S
  refine g_iloadN C S dp_0 (pc' := 1) rfl rfl ?_
  refine g_if_ne C S dp_1 (pc' := 11) (pf := 4) (by decide) (by decide) rfl (fun hc1 => ?_) (fun hc1 => absurd hc1 (by decide))
  refine g_iloadN C S dp_11 (pc' := 12) rfl rfl ?_
  refine g_iconst C S (1 : Int32) dp_12 (pc' := 13) rfl rfl ?_
  refine g_icmp_ne C S dp_13 (pc' := 23) (pf := 16) (by decide) (by decide) rfl (fun hc13 => ?_) (fun hc13 => absurd hc13 (by decide))
  refine g_iloadN C S dp_23 (pc' := 24) rfl rfl ?_
  refine g_iconst C S (2 : Int32) dp_24 (pc' := 25) rfl rfl ?_
  refine g_icmp_ne C S dp_25 (pc' := 35) (pf := 28) (by decide) (by decide) rfl (fun hc25 => ?_) (fun hc25 => absurd hc25 (by decide))
  refine g_iloadN C S dp_35 (pc' := 36) rfl rfl ?_
  refine g_iconst C S (3 : Int32) dp_36 (pc' := 37) rfl rfl ?_
  refine g_icmp_ne C S dp_37 (pc' := 47) (pf := 40) (by decide) (by decide) rfl (fun hc37 => absurd rfl hc37) (fun hc37 => ?_)
  refine g_getS C S dp_40 (host := "") (Or.inl (hw _ (List.mem_of_getElem? (i := 29) rfl))) Via.refl S_TRUE (pc' := 43) rfl (fun T13 S => ?_)
  refine g_astoreN C S dp_43 (pc' := 44) rfl rfl (L' := #[.val (.int (3 : Int32)), .val (.ref w3)]) rfl ?_
  refine g_goto C S dp_44 (pc' := 101) (by decide) (by decide) ?_
  refine g_aloadN C S dp_101 (pc' := 102) rfl rfl rfl ?_
  exact g_retA C S dp_102 rfl rfl rfl (by decide) (by decide) (⟨rfl, rfl⟩)
set_option maxRecDepth 65536 in
set_option maxHeartbeats 40000000 in
theorem c_exp3 (l : Launch) (Z : State) (a0 : Array Value) (hw : ∀ d ∈ tables_1, d.before a0 Z = true) (p2 : Int32) (h0 : Heap) (n0 : Nat) :
    Con l Z (⟨"com/example/upupa/upupa/expr/BuiltInFunctionReadsFocusPinLaw", "expected", "(II)Z"⟩ : MethodName) method_3_code 3 (some .boolean) ({ frames := 0, cells := 0, slots := 0, locals := 0 } : Room) #[(.int (3 : Int32)), (.int p2)] h0 n0 (fun v h => v = some (.int 0) ∧ h = h0) := by
  refine Con.of (plainFor_of_name (by first | (simp [plainName, overriddenIn]; done) | decide +kernel)) (L0 := #[.val (.int (3 : Int32)), .val (.int p2), .unset]) (fun m => by first | (simp [entryFrame, mkF, argsToLocals, Value.category]; done) | rfl) ?_
  intro p e s m below meth c T C S
  refine g_iloadN C S de_0 (pc' := 1) rfl rfl ?_
  refine g_bipush C S (7 : Int32) de_1 (pc' := 3) rfl rfl ?_
  refine g_icmp_eq C S de_3 (pc' := 12) (pf := 6) (by decide) (by decide) rfl (fun hc3 => absurd hc3 (by decide)) (fun hc3 => ?_)
  refine g_iloadN C S de_6 (pc' := 7) rfl rfl ?_
  refine g_bipush C S (8 : Int32) de_7 (pc' := 9) rfl rfl ?_
  refine g_icmp_ne C S de_9 (pc' := 17) (pf := 12) (by decide) (by decide) rfl (fun hc9 => ?_) (fun hc9 => absurd hc9 (by decide))
  refine g_iloadN C S de_17 (pc' := 18) rfl rfl ?_
  refine g_iconst C S (1 : Int32) de_18 (pc' := 19) rfl rfl ?_
  refine g_icmp_ne C S de_19 (pc' := 35) (pf := 22) (by decide) (by decide) rfl (fun hc19 => ?_) (fun hc19 => absurd hc19 (by decide))
  refine g_iconst C S (0 : Int32) de_35 (pc' := 36) rfl rfl ?_
  refine g_istoreN C S de_36 (pc' := 37) rfl (L' := #[.val (.int (3 : Int32)), .val (.int p2), .val (.int (0 : Int32))]) rfl ?_
  refine g_iloadN C S de_37 (pc' := 38) rfl rfl ?_
  exact g_retZ C S de_38 (by decide) (by decide) (by decide) (⟨rfl, rfl⟩)
set_option maxRecDepth 65536 in
set_option maxHeartbeats 40000000 in
theorem c_rf3 (l : Launch) (Z : State) (a0 : Array Value) (hw : ∀ d ∈ tables_1, d.before a0 Z = true) (w3 : Addr) (p2 : Int32) (h0 : Heap) (n0 : Nat) (w1 : Addr) (w7 : Addr) (w8 : Addr) (S_LAST : Sta Z h0 "com/example/upupa/upupa/expr/BuiltInFunction" "LAST" "Lcom/example/upupa/upupa/expr/BuiltInFunction;" (.ref w7)) (S_POSITION : Sta Z h0 "com/example/upupa/upupa/expr/BuiltInFunction" "POSITION" "Lcom/example/upupa/upupa/expr/BuiltInFunction;" (.ref w8)) (S_STRING : Sta Z h0 "com/example/upupa/upupa/expr/BuiltInFunction" "STRING" "Lcom/example/upupa/upupa/expr/BuiltInFunction;" (.ref w1)) (nw3_w1 : w3 ≠ w1) (nw3_w7 : w3 ≠ w7) (nw3_w8 : w3 ≠ w8) :
    Con l Z (⟨"com/example/upupa/upupa/expr/BuiltInFunction", "readsFocus", "(I)Z"⟩ : MethodName) prog_4_method_7_code 2 (some .boolean) ({ frames := 0, cells := 0, slots := 0, locals := 0 } : Room) #[(.ref w3), (.int p2)] h0 n0 (fun v h => v = some (.int 0) ∧ h = h0) := by
  refine Con.of (plainFor_of_name (by first | (simp [plainName, overriddenIn]; done) | decide +kernel)) (L0 := #[.val (.ref w3), .val (.int p2)]) (fun m => by first | (simp [entryFrame, mkF, argsToLocals, Value.category]; done) | rfl) ?_
  intro p e s m below meth c T C S
  refine g_aloadN C S dr_0 (pc' := 1) rfl rfl rfl ?_
  refine g_getS C S dr_1 (host := "") (Or.inl (hw _ (List.mem_of_getElem? (i := 13) rfl))) Via.refl S_LAST (pc' := 4) rfl (fun T14 S => ?_)
  refine g_acmp_eq C S rfl rfl dr_4 (pc' := 25) (pf := 7) (by decide) (by decide) rfl (fun hc4 => absurd (Value.ref.inj hc4) nw3_w7) (fun hc4 => ?_)
  refine g_aloadN C S dr_7 (pc' := 8) rfl rfl rfl ?_
  refine g_getS C S dr_8 (host := "") (Or.inl (hw _ (List.mem_of_getElem? (i := 15) rfl))) Via.refl S_POSITION (pc' := 11) rfl (fun T15 S => ?_)
  refine g_acmp_eq C S rfl rfl dr_11 (pc' := 25) (pf := 14) (by decide) (by decide) rfl (fun hc11 => absurd (Value.ref.inj hc11) nw3_w8) (fun hc11 => ?_)
  refine g_aloadN C S dr_14 (pc' := 15) rfl rfl rfl ?_
  refine g_getS C S dr_15 (host := "") (Or.inl (hw _ (List.mem_of_getElem? (i := 17) rfl))) Via.refl S_STRING (pc' := 18) rfl (fun T16 S => ?_)
  refine g_acmp_ne C S rfl rfl dr_18 (pc' := 29) (pf := 21) (by decide) (by decide) rfl (fun hc18 => ?_) (fun hc18 => absurd (Value.ref.inj hc18) nw3_w1)
  refine g_iconst C S (0 : Int32) dr_29 (pc' := 30) rfl rfl ?_
  exact g_retZ C S dr_30 (by decide) (by decide) (by decide) (⟨rfl, rfl⟩)
theorem dp_47 : decode method_2_code 47 = .ok (.iload_n 0, 1) := by decide +kernel
theorem dp_48 : decode method_2_code 48 = .ok (.iconst 4, 1) := by decide +kernel
theorem dp_49 : decode method_2_code 49 = .ok (.if_icmp .ne 10, 3) := by decide +kernel
theorem dp_52 : decode method_2_code 52 = .ok (.getstatic 22, 3) := by decide +kernel
theorem dp_55 : decode method_2_code 55 = .ok (.astore_n 1, 1) := by decide +kernel
theorem dp_56 : decode method_2_code 56 = .ok (.goto 45, 3) := by decide +kernel
set_option maxRecDepth 65536 in
set_option maxHeartbeats 40000000 in
theorem c_pick4 (l : Launch) (Z : State) (a0 : Array Value) (hw : ∀ d ∈ tables_1, d.before a0 Z = true)  (h0 : Heap) (n0 : Nat) (w4 : Addr) (S_FALSE : Sta Z h0 "com/example/upupa/upupa/expr/BuiltInFunction" "FALSE" "Lcom/example/upupa/upupa/expr/BuiltInFunction;" (.ref w4)) :
    Con l Z (⟨"com/example/upupa/upupa/expr/BuiltInFunctionReadsFocusPinLaw", "pick", "(I)Lcom/example/upupa/upupa/expr/BuiltInFunction;"⟩ : MethodName) method_2_code 2 (some (.object "com/example/upupa/upupa/expr/BuiltInFunction")) ({ frames := 0, cells := 0, slots := 0, locals := 0 } : Room) #[(.int (4 : Int32))] h0 n0 (fun v h => v = some (.ref w4) ∧ h = h0) := by
  refine Con.of (plainFor_of_name (by first | (simp [plainName, overriddenIn]; done) | decide +kernel)) (L0 := #[.val (.int (4 : Int32)), .unset]) (fun m => by first | (simp [entryFrame, mkF, argsToLocals, Value.category]; done) | rfl) ?_
  intro p e s m below meth c T C S
  refine g_iloadN C S dp_0 (pc' := 1) rfl rfl ?_
  refine g_if_ne C S dp_1 (pc' := 11) (pf := 4) (by decide) (by decide) rfl (fun hc1 => ?_) (fun hc1 => absurd hc1 (by decide))
  refine g_iloadN C S dp_11 (pc' := 12) rfl rfl ?_
  refine g_iconst C S (1 : Int32) dp_12 (pc' := 13) rfl rfl ?_
  refine g_icmp_ne C S dp_13 (pc' := 23) (pf := 16) (by decide) (by decide) rfl (fun hc13 => ?_) (fun hc13 => absurd hc13 (by decide))
  refine g_iloadN C S dp_23 (pc' := 24) rfl rfl ?_
  refine g_iconst C S (2 : Int32) dp_24 (pc' := 25) rfl rfl ?_
  refine g_icmp_ne C S dp_25 (pc' := 35) (pf := 28) (by decide) (by decide) rfl (fun hc25 => ?_) (fun hc25 => absurd hc25 (by decide))
  refine g_iloadN C S dp_35 (pc' := 36) rfl rfl ?_
  refine g_iconst C S (3 : Int32) dp_36 (pc' := 37) rfl rfl ?_
  refine g_icmp_ne C S dp_37 (pc' := 47) (pf := 40) (by decide) (by decide) rfl (fun hc37 => ?_) (fun hc37 => absurd hc37 (by decide))
  refine g_iloadN C S dp_47 (pc' := 48) rfl rfl ?_
  refine g_iconst C S (4 : Int32) dp_48 (pc' := 49) rfl rfl ?_
  refine g_icmp_ne C S dp_49 (pc' := 59) (pf := 52) (by decide) (by decide) rfl (fun hc49 => absurd rfl hc49) (fun hc49 => ?_)
  refine g_getS C S dp_52 (host := "") (Or.inl (hw _ (List.mem_of_getElem? (i := 31) rfl))) Via.refl S_FALSE (pc' := 55) rfl (fun T17 S => ?_)
  refine g_astoreN C S dp_55 (pc' := 56) rfl rfl (L' := #[.val (.int (4 : Int32)), .val (.ref w4)]) rfl ?_
  refine g_goto C S dp_56 (pc' := 101) (by decide) (by decide) ?_
  refine g_aloadN C S dp_101 (pc' := 102) rfl rfl rfl ?_
  exact g_retA C S dp_102 rfl rfl rfl (by decide) (by decide) (⟨rfl, rfl⟩)
set_option maxRecDepth 65536 in
set_option maxHeartbeats 40000000 in
theorem c_exp4 (l : Launch) (Z : State) (a0 : Array Value) (hw : ∀ d ∈ tables_1, d.before a0 Z = true) (p2 : Int32) (h0 : Heap) (n0 : Nat) :
    Con l Z (⟨"com/example/upupa/upupa/expr/BuiltInFunctionReadsFocusPinLaw", "expected", "(II)Z"⟩ : MethodName) method_3_code 3 (some .boolean) ({ frames := 0, cells := 0, slots := 0, locals := 0 } : Room) #[(.int (4 : Int32)), (.int p2)] h0 n0 (fun v h => v = some (.int 0) ∧ h = h0) := by
  refine Con.of (plainFor_of_name (by first | (simp [plainName, overriddenIn]; done) | decide +kernel)) (L0 := #[.val (.int (4 : Int32)), .val (.int p2), .unset]) (fun m => by first | (simp [entryFrame, mkF, argsToLocals, Value.category]; done) | rfl) ?_
  intro p e s m below meth c T C S
  refine g_iloadN C S de_0 (pc' := 1) rfl rfl ?_
  refine g_bipush C S (7 : Int32) de_1 (pc' := 3) rfl rfl ?_
  refine g_icmp_eq C S de_3 (pc' := 12) (pf := 6) (by decide) (by decide) rfl (fun hc3 => absurd hc3 (by decide)) (fun hc3 => ?_)
  refine g_iloadN C S de_6 (pc' := 7) rfl rfl ?_
  refine g_bipush C S (8 : Int32) de_7 (pc' := 9) rfl rfl ?_
  refine g_icmp_ne C S de_9 (pc' := 17) (pf := 12) (by decide) (by decide) rfl (fun hc9 => ?_) (fun hc9 => absurd hc9 (by decide))
  refine g_iloadN C S de_17 (pc' := 18) rfl rfl ?_
  refine g_iconst C S (1 : Int32) de_18 (pc' := 19) rfl rfl ?_
  refine g_icmp_ne C S de_19 (pc' := 35) (pf := 22) (by decide) (by decide) rfl (fun hc19 => ?_) (fun hc19 => absurd hc19 (by decide))
  refine g_iconst C S (0 : Int32) de_35 (pc' := 36) rfl rfl ?_
  refine g_istoreN C S de_36 (pc' := 37) rfl (L' := #[.val (.int (4 : Int32)), .val (.int p2), .val (.int (0 : Int32))]) rfl ?_
  refine g_iloadN C S de_37 (pc' := 38) rfl rfl ?_
  exact g_retZ C S de_38 (by decide) (by decide) (by decide) (⟨rfl, rfl⟩)
set_option maxRecDepth 65536 in
set_option maxHeartbeats 40000000 in
theorem c_rf4 (l : Launch) (Z : State) (a0 : Array Value) (hw : ∀ d ∈ tables_1, d.before a0 Z = true) (w4 : Addr) (p2 : Int32) (h0 : Heap) (n0 : Nat) (w1 : Addr) (w7 : Addr) (w8 : Addr) (S_LAST : Sta Z h0 "com/example/upupa/upupa/expr/BuiltInFunction" "LAST" "Lcom/example/upupa/upupa/expr/BuiltInFunction;" (.ref w7)) (S_POSITION : Sta Z h0 "com/example/upupa/upupa/expr/BuiltInFunction" "POSITION" "Lcom/example/upupa/upupa/expr/BuiltInFunction;" (.ref w8)) (S_STRING : Sta Z h0 "com/example/upupa/upupa/expr/BuiltInFunction" "STRING" "Lcom/example/upupa/upupa/expr/BuiltInFunction;" (.ref w1)) (nw4_w1 : w4 ≠ w1) (nw4_w7 : w4 ≠ w7) (nw4_w8 : w4 ≠ w8) :
    Con l Z (⟨"com/example/upupa/upupa/expr/BuiltInFunction", "readsFocus", "(I)Z"⟩ : MethodName) prog_4_method_7_code 2 (some .boolean) ({ frames := 0, cells := 0, slots := 0, locals := 0 } : Room) #[(.ref w4), (.int p2)] h0 n0 (fun v h => v = some (.int 0) ∧ h = h0) := by
  refine Con.of (plainFor_of_name (by first | (simp [plainName, overriddenIn]; done) | decide +kernel)) (L0 := #[.val (.ref w4), .val (.int p2)]) (fun m => by first | (simp [entryFrame, mkF, argsToLocals, Value.category]; done) | rfl) ?_
  intro p e s m below meth c T C S
  refine g_aloadN C S dr_0 (pc' := 1) rfl rfl rfl ?_
  refine g_getS C S dr_1 (host := "") (Or.inl (hw _ (List.mem_of_getElem? (i := 13) rfl))) Via.refl S_LAST (pc' := 4) rfl (fun T18 S => ?_)
  refine g_acmp_eq C S rfl rfl dr_4 (pc' := 25) (pf := 7) (by decide) (by decide) rfl (fun hc4 => absurd (Value.ref.inj hc4) nw4_w7) (fun hc4 => ?_)
  refine g_aloadN C S dr_7 (pc' := 8) rfl rfl rfl ?_
  refine g_getS C S dr_8 (host := "") (Or.inl (hw _ (List.mem_of_getElem? (i := 15) rfl))) Via.refl S_POSITION (pc' := 11) rfl (fun T19 S => ?_)
  refine g_acmp_eq C S rfl rfl dr_11 (pc' := 25) (pf := 14) (by decide) (by decide) rfl (fun hc11 => absurd (Value.ref.inj hc11) nw4_w8) (fun hc11 => ?_)
  refine g_aloadN C S dr_14 (pc' := 15) rfl rfl rfl ?_
  refine g_getS C S dr_15 (host := "") (Or.inl (hw _ (List.mem_of_getElem? (i := 17) rfl))) Via.refl S_STRING (pc' := 18) rfl (fun T20 S => ?_)
  refine g_acmp_ne C S rfl rfl dr_18 (pc' := 29) (pf := 21) (by decide) (by decide) rfl (fun hc18 => ?_) (fun hc18 => absurd (Value.ref.inj hc18) nw4_w1)
  refine g_iconst C S (0 : Int32) dr_29 (pc' := 30) rfl rfl ?_
  exact g_retZ C S dr_30 (by decide) (by decide) (by decide) (⟨rfl, rfl⟩)
theorem dp_59 : decode method_2_code 59 = .ok (.iload_n 0, 1) := by decide +kernel
theorem dp_60 : decode method_2_code 60 = .ok (.iconst 5, 1) := by decide +kernel
theorem dp_61 : decode method_2_code 61 = .ok (.if_icmp .ne 10, 3) := by decide +kernel
theorem dp_64 : decode method_2_code 64 = .ok (.getstatic 25, 3) := by decide +kernel
theorem dp_67 : decode method_2_code 67 = .ok (.astore_n 1, 1) := by decide +kernel
theorem dp_68 : decode method_2_code 68 = .ok (.goto 33, 3) := by decide +kernel
set_option maxRecDepth 65536 in
set_option maxHeartbeats 40000000 in
theorem c_pick5 (l : Launch) (Z : State) (a0 : Array Value) (hw : ∀ d ∈ tables_1, d.before a0 Z = true)  (h0 : Heap) (n0 : Nat) (w5 : Addr) (S_MIN : Sta Z h0 "com/example/upupa/upupa/expr/BuiltInFunction" "MIN" "Lcom/example/upupa/upupa/expr/BuiltInFunction;" (.ref w5)) :
    Con l Z (⟨"com/example/upupa/upupa/expr/BuiltInFunctionReadsFocusPinLaw", "pick", "(I)Lcom/example/upupa/upupa/expr/BuiltInFunction;"⟩ : MethodName) method_2_code 2 (some (.object "com/example/upupa/upupa/expr/BuiltInFunction")) ({ frames := 0, cells := 0, slots := 0, locals := 0 } : Room) #[(.int (5 : Int32))] h0 n0 (fun v h => v = some (.ref w5) ∧ h = h0) := by
  refine Con.of (plainFor_of_name (by first | (simp [plainName, overriddenIn]; done) | decide +kernel)) (L0 := #[.val (.int (5 : Int32)), .unset]) (fun m => by first | (simp [entryFrame, mkF, argsToLocals, Value.category]; done) | rfl) ?_
  intro p e s m below meth c T C S
  refine g_iloadN C S dp_0 (pc' := 1) rfl rfl ?_
  refine g_if_ne C S dp_1 (pc' := 11) (pf := 4) (by decide) (by decide) rfl (fun hc1 => ?_) (fun hc1 => absurd hc1 (by decide))
  refine g_iloadN C S dp_11 (pc' := 12) rfl rfl ?_
  refine g_iconst C S (1 : Int32) dp_12 (pc' := 13) rfl rfl ?_
  refine g_icmp_ne C S dp_13 (pc' := 23) (pf := 16) (by decide) (by decide) rfl (fun hc13 => ?_) (fun hc13 => absurd hc13 (by decide))
  refine g_iloadN C S dp_23 (pc' := 24) rfl rfl ?_
  refine g_iconst C S (2 : Int32) dp_24 (pc' := 25) rfl rfl ?_
  refine g_icmp_ne C S dp_25 (pc' := 35) (pf := 28) (by decide) (by decide) rfl (fun hc25 => ?_) (fun hc25 => absurd hc25 (by decide))
  refine g_iloadN C S dp_35 (pc' := 36) rfl rfl ?_
  refine g_iconst C S (3 : Int32) dp_36 (pc' := 37) rfl rfl ?_
  refine g_icmp_ne C S dp_37 (pc' := 47) (pf := 40) (by decide) (by decide) rfl (fun hc37 => ?_) (fun hc37 => absurd hc37 (by decide))
  refine g_iloadN C S dp_47 (pc' := 48) rfl rfl ?_
  refine g_iconst C S (4 : Int32) dp_48 (pc' := 49) rfl rfl ?_
  refine g_icmp_ne C S dp_49 (pc' := 59) (pf := 52) (by decide) (by decide) rfl (fun hc49 => ?_) (fun hc49 => absurd hc49 (by decide))
  refine g_iloadN C S dp_59 (pc' := 60) rfl rfl ?_
  refine g_iconst C S (5 : Int32) dp_60 (pc' := 61) rfl rfl ?_
  refine g_icmp_ne C S dp_61 (pc' := 71) (pf := 64) (by decide) (by decide) rfl (fun hc61 => absurd rfl hc61) (fun hc61 => ?_)
  refine g_getS C S dp_64 (host := "") (Or.inl (hw _ (List.mem_of_getElem? (i := 33) rfl))) Via.refl S_MIN (pc' := 67) rfl (fun T21 S => ?_)
  refine g_astoreN C S dp_67 (pc' := 68) rfl rfl (L' := #[.val (.int (5 : Int32)), .val (.ref w5)]) rfl ?_
  refine g_goto C S dp_68 (pc' := 101) (by decide) (by decide) ?_
  refine g_aloadN C S dp_101 (pc' := 102) rfl rfl rfl ?_
  exact g_retA C S dp_102 rfl rfl rfl (by decide) (by decide) (⟨rfl, rfl⟩)
set_option maxRecDepth 65536 in
set_option maxHeartbeats 40000000 in
theorem c_exp5 (l : Launch) (Z : State) (a0 : Array Value) (hw : ∀ d ∈ tables_1, d.before a0 Z = true) (p2 : Int32) (h0 : Heap) (n0 : Nat) :
    Con l Z (⟨"com/example/upupa/upupa/expr/BuiltInFunctionReadsFocusPinLaw", "expected", "(II)Z"⟩ : MethodName) method_3_code 3 (some .boolean) ({ frames := 0, cells := 0, slots := 0, locals := 0 } : Room) #[(.int (5 : Int32)), (.int p2)] h0 n0 (fun v h => v = some (.int 0) ∧ h = h0) := by
  refine Con.of (plainFor_of_name (by first | (simp [plainName, overriddenIn]; done) | decide +kernel)) (L0 := #[.val (.int (5 : Int32)), .val (.int p2), .unset]) (fun m => by first | (simp [entryFrame, mkF, argsToLocals, Value.category]; done) | rfl) ?_
  intro p e s m below meth c T C S
  refine g_iloadN C S de_0 (pc' := 1) rfl rfl ?_
  refine g_bipush C S (7 : Int32) de_1 (pc' := 3) rfl rfl ?_
  refine g_icmp_eq C S de_3 (pc' := 12) (pf := 6) (by decide) (by decide) rfl (fun hc3 => absurd hc3 (by decide)) (fun hc3 => ?_)
  refine g_iloadN C S de_6 (pc' := 7) rfl rfl ?_
  refine g_bipush C S (8 : Int32) de_7 (pc' := 9) rfl rfl ?_
  refine g_icmp_ne C S de_9 (pc' := 17) (pf := 12) (by decide) (by decide) rfl (fun hc9 => ?_) (fun hc9 => absurd hc9 (by decide))
  refine g_iloadN C S de_17 (pc' := 18) rfl rfl ?_
  refine g_iconst C S (1 : Int32) de_18 (pc' := 19) rfl rfl ?_
  refine g_icmp_ne C S de_19 (pc' := 35) (pf := 22) (by decide) (by decide) rfl (fun hc19 => ?_) (fun hc19 => absurd hc19 (by decide))
  refine g_iconst C S (0 : Int32) de_35 (pc' := 36) rfl rfl ?_
  refine g_istoreN C S de_36 (pc' := 37) rfl (L' := #[.val (.int (5 : Int32)), .val (.int p2), .val (.int (0 : Int32))]) rfl ?_
  refine g_iloadN C S de_37 (pc' := 38) rfl rfl ?_
  exact g_retZ C S de_38 (by decide) (by decide) (by decide) (⟨rfl, rfl⟩)
set_option maxRecDepth 65536 in
set_option maxHeartbeats 40000000 in
theorem c_rf5 (l : Launch) (Z : State) (a0 : Array Value) (hw : ∀ d ∈ tables_1, d.before a0 Z = true) (w5 : Addr) (p2 : Int32) (h0 : Heap) (n0 : Nat) (w1 : Addr) (w7 : Addr) (w8 : Addr) (S_LAST : Sta Z h0 "com/example/upupa/upupa/expr/BuiltInFunction" "LAST" "Lcom/example/upupa/upupa/expr/BuiltInFunction;" (.ref w7)) (S_POSITION : Sta Z h0 "com/example/upupa/upupa/expr/BuiltInFunction" "POSITION" "Lcom/example/upupa/upupa/expr/BuiltInFunction;" (.ref w8)) (S_STRING : Sta Z h0 "com/example/upupa/upupa/expr/BuiltInFunction" "STRING" "Lcom/example/upupa/upupa/expr/BuiltInFunction;" (.ref w1)) (nw5_w1 : w5 ≠ w1) (nw5_w7 : w5 ≠ w7) (nw5_w8 : w5 ≠ w8) :
    Con l Z (⟨"com/example/upupa/upupa/expr/BuiltInFunction", "readsFocus", "(I)Z"⟩ : MethodName) prog_4_method_7_code 2 (some .boolean) ({ frames := 0, cells := 0, slots := 0, locals := 0 } : Room) #[(.ref w5), (.int p2)] h0 n0 (fun v h => v = some (.int 0) ∧ h = h0) := by
  refine Con.of (plainFor_of_name (by first | (simp [plainName, overriddenIn]; done) | decide +kernel)) (L0 := #[.val (.ref w5), .val (.int p2)]) (fun m => by first | (simp [entryFrame, mkF, argsToLocals, Value.category]; done) | rfl) ?_
  intro p e s m below meth c T C S
  refine g_aloadN C S dr_0 (pc' := 1) rfl rfl rfl ?_
  refine g_getS C S dr_1 (host := "") (Or.inl (hw _ (List.mem_of_getElem? (i := 13) rfl))) Via.refl S_LAST (pc' := 4) rfl (fun T22 S => ?_)
  refine g_acmp_eq C S rfl rfl dr_4 (pc' := 25) (pf := 7) (by decide) (by decide) rfl (fun hc4 => absurd (Value.ref.inj hc4) nw5_w7) (fun hc4 => ?_)
  refine g_aloadN C S dr_7 (pc' := 8) rfl rfl rfl ?_
  refine g_getS C S dr_8 (host := "") (Or.inl (hw _ (List.mem_of_getElem? (i := 15) rfl))) Via.refl S_POSITION (pc' := 11) rfl (fun T23 S => ?_)
  refine g_acmp_eq C S rfl rfl dr_11 (pc' := 25) (pf := 14) (by decide) (by decide) rfl (fun hc11 => absurd (Value.ref.inj hc11) nw5_w8) (fun hc11 => ?_)
  refine g_aloadN C S dr_14 (pc' := 15) rfl rfl rfl ?_
  refine g_getS C S dr_15 (host := "") (Or.inl (hw _ (List.mem_of_getElem? (i := 17) rfl))) Via.refl S_STRING (pc' := 18) rfl (fun T24 S => ?_)
  refine g_acmp_ne C S rfl rfl dr_18 (pc' := 29) (pf := 21) (by decide) (by decide) rfl (fun hc18 => ?_) (fun hc18 => absurd (Value.ref.inj hc18) nw5_w1)
  refine g_iconst C S (0 : Int32) dr_29 (pc' := 30) rfl rfl ?_
  exact g_retZ C S dr_30 (by decide) (by decide) (by decide) (⟨rfl, rfl⟩)
theorem dp_71 : decode method_2_code 71 = .ok (.iload_n 0, 1) := by decide +kernel
theorem dp_72 : decode method_2_code 72 = .ok (.bipush 6, 2) := by decide +kernel
theorem dp_74 : decode method_2_code 74 = .ok (.if_icmp .ne 10, 3) := by decide +kernel
theorem dp_77 : decode method_2_code 77 = .ok (.getstatic 28, 3) := by decide +kernel
theorem dp_80 : decode method_2_code 80 = .ok (.astore_n 1, 1) := by decide +kernel
theorem dp_81 : decode method_2_code 81 = .ok (.goto 20, 3) := by decide +kernel
set_option maxRecDepth 65536 in
set_option maxHeartbeats 40000000 in
theorem c_pick6 (l : Launch) (Z : State) (a0 : Array Value) (hw : ∀ d ∈ tables_1, d.before a0 Z = true)  (h0 : Heap) (n0 : Nat) (w6 : Addr) (S_MAX : Sta Z h0 "com/example/upupa/upupa/expr/BuiltInFunction" "MAX" "Lcom/example/upupa/upupa/expr/BuiltInFunction;" (.ref w6)) :
    Con l Z (⟨"com/example/upupa/upupa/expr/BuiltInFunctionReadsFocusPinLaw", "pick", "(I)Lcom/example/upupa/upupa/expr/BuiltInFunction;"⟩ : MethodName) method_2_code 2 (some (.object "com/example/upupa/upupa/expr/BuiltInFunction")) ({ frames := 0, cells := 0, slots := 0, locals := 0 } : Room) #[(.int (6 : Int32))] h0 n0 (fun v h => v = some (.ref w6) ∧ h = h0) := by
  refine Con.of (plainFor_of_name (by first | (simp [plainName, overriddenIn]; done) | decide +kernel)) (L0 := #[.val (.int (6 : Int32)), .unset]) (fun m => by first | (simp [entryFrame, mkF, argsToLocals, Value.category]; done) | rfl) ?_
  intro p e s m below meth c T C S
  refine g_iloadN C S dp_0 (pc' := 1) rfl rfl ?_
  refine g_if_ne C S dp_1 (pc' := 11) (pf := 4) (by decide) (by decide) rfl (fun hc1 => ?_) (fun hc1 => absurd hc1 (by decide))
  refine g_iloadN C S dp_11 (pc' := 12) rfl rfl ?_
  refine g_iconst C S (1 : Int32) dp_12 (pc' := 13) rfl rfl ?_
  refine g_icmp_ne C S dp_13 (pc' := 23) (pf := 16) (by decide) (by decide) rfl (fun hc13 => ?_) (fun hc13 => absurd hc13 (by decide))
  refine g_iloadN C S dp_23 (pc' := 24) rfl rfl ?_
  refine g_iconst C S (2 : Int32) dp_24 (pc' := 25) rfl rfl ?_
  refine g_icmp_ne C S dp_25 (pc' := 35) (pf := 28) (by decide) (by decide) rfl (fun hc25 => ?_) (fun hc25 => absurd hc25 (by decide))
  refine g_iloadN C S dp_35 (pc' := 36) rfl rfl ?_
  refine g_iconst C S (3 : Int32) dp_36 (pc' := 37) rfl rfl ?_
  refine g_icmp_ne C S dp_37 (pc' := 47) (pf := 40) (by decide) (by decide) rfl (fun hc37 => ?_) (fun hc37 => absurd hc37 (by decide))
  refine g_iloadN C S dp_47 (pc' := 48) rfl rfl ?_
  refine g_iconst C S (4 : Int32) dp_48 (pc' := 49) rfl rfl ?_
  refine g_icmp_ne C S dp_49 (pc' := 59) (pf := 52) (by decide) (by decide) rfl (fun hc49 => ?_) (fun hc49 => absurd hc49 (by decide))
  refine g_iloadN C S dp_59 (pc' := 60) rfl rfl ?_
  refine g_iconst C S (5 : Int32) dp_60 (pc' := 61) rfl rfl ?_
  refine g_icmp_ne C S dp_61 (pc' := 71) (pf := 64) (by decide) (by decide) rfl (fun hc61 => ?_) (fun hc61 => absurd hc61 (by decide))
  refine g_iloadN C S dp_71 (pc' := 72) rfl rfl ?_
  refine g_bipush C S (6 : Int32) dp_72 (pc' := 74) rfl rfl ?_
  refine g_icmp_ne C S dp_74 (pc' := 84) (pf := 77) (by decide) (by decide) rfl (fun hc74 => absurd rfl hc74) (fun hc74 => ?_)
  refine g_getS C S dp_77 (host := "") (Or.inl (hw _ (List.mem_of_getElem? (i := 26) rfl))) Via.refl S_MAX (pc' := 80) rfl (fun T25 S => ?_)
  refine g_astoreN C S dp_80 (pc' := 81) rfl rfl (L' := #[.val (.int (6 : Int32)), .val (.ref w6)]) rfl ?_
  refine g_goto C S dp_81 (pc' := 101) (by decide) (by decide) ?_
  refine g_aloadN C S dp_101 (pc' := 102) rfl rfl rfl ?_
  exact g_retA C S dp_102 rfl rfl rfl (by decide) (by decide) (⟨rfl, rfl⟩)
set_option maxRecDepth 65536 in
set_option maxHeartbeats 40000000 in
theorem c_exp6 (l : Launch) (Z : State) (a0 : Array Value) (hw : ∀ d ∈ tables_1, d.before a0 Z = true) (p2 : Int32) (h0 : Heap) (n0 : Nat) :
    Con l Z (⟨"com/example/upupa/upupa/expr/BuiltInFunctionReadsFocusPinLaw", "expected", "(II)Z"⟩ : MethodName) method_3_code 3 (some .boolean) ({ frames := 0, cells := 0, slots := 0, locals := 0 } : Room) #[(.int (6 : Int32)), (.int p2)] h0 n0 (fun v h => v = some (.int 0) ∧ h = h0) := by
  refine Con.of (plainFor_of_name (by first | (simp [plainName, overriddenIn]; done) | decide +kernel)) (L0 := #[.val (.int (6 : Int32)), .val (.int p2), .unset]) (fun m => by first | (simp [entryFrame, mkF, argsToLocals, Value.category]; done) | rfl) ?_
  intro p e s m below meth c T C S
  refine g_iloadN C S de_0 (pc' := 1) rfl rfl ?_
  refine g_bipush C S (7 : Int32) de_1 (pc' := 3) rfl rfl ?_
  refine g_icmp_eq C S de_3 (pc' := 12) (pf := 6) (by decide) (by decide) rfl (fun hc3 => absurd hc3 (by decide)) (fun hc3 => ?_)
  refine g_iloadN C S de_6 (pc' := 7) rfl rfl ?_
  refine g_bipush C S (8 : Int32) de_7 (pc' := 9) rfl rfl ?_
  refine g_icmp_ne C S de_9 (pc' := 17) (pf := 12) (by decide) (by decide) rfl (fun hc9 => ?_) (fun hc9 => absurd hc9 (by decide))
  refine g_iloadN C S de_17 (pc' := 18) rfl rfl ?_
  refine g_iconst C S (1 : Int32) de_18 (pc' := 19) rfl rfl ?_
  refine g_icmp_ne C S de_19 (pc' := 35) (pf := 22) (by decide) (by decide) rfl (fun hc19 => ?_) (fun hc19 => absurd hc19 (by decide))
  refine g_iconst C S (0 : Int32) de_35 (pc' := 36) rfl rfl ?_
  refine g_istoreN C S de_36 (pc' := 37) rfl (L' := #[.val (.int (6 : Int32)), .val (.int p2), .val (.int (0 : Int32))]) rfl ?_
  refine g_iloadN C S de_37 (pc' := 38) rfl rfl ?_
  exact g_retZ C S de_38 (by decide) (by decide) (by decide) (⟨rfl, rfl⟩)
set_option maxRecDepth 65536 in
set_option maxHeartbeats 40000000 in
theorem c_rf6 (l : Launch) (Z : State) (a0 : Array Value) (hw : ∀ d ∈ tables_1, d.before a0 Z = true) (w6 : Addr) (p2 : Int32) (h0 : Heap) (n0 : Nat) (w1 : Addr) (w7 : Addr) (w8 : Addr) (S_LAST : Sta Z h0 "com/example/upupa/upupa/expr/BuiltInFunction" "LAST" "Lcom/example/upupa/upupa/expr/BuiltInFunction;" (.ref w7)) (S_POSITION : Sta Z h0 "com/example/upupa/upupa/expr/BuiltInFunction" "POSITION" "Lcom/example/upupa/upupa/expr/BuiltInFunction;" (.ref w8)) (S_STRING : Sta Z h0 "com/example/upupa/upupa/expr/BuiltInFunction" "STRING" "Lcom/example/upupa/upupa/expr/BuiltInFunction;" (.ref w1)) (nw6_w1 : w6 ≠ w1) (nw6_w7 : w6 ≠ w7) (nw6_w8 : w6 ≠ w8) :
    Con l Z (⟨"com/example/upupa/upupa/expr/BuiltInFunction", "readsFocus", "(I)Z"⟩ : MethodName) prog_4_method_7_code 2 (some .boolean) ({ frames := 0, cells := 0, slots := 0, locals := 0 } : Room) #[(.ref w6), (.int p2)] h0 n0 (fun v h => v = some (.int 0) ∧ h = h0) := by
  refine Con.of (plainFor_of_name (by first | (simp [plainName, overriddenIn]; done) | decide +kernel)) (L0 := #[.val (.ref w6), .val (.int p2)]) (fun m => by first | (simp [entryFrame, mkF, argsToLocals, Value.category]; done) | rfl) ?_
  intro p e s m below meth c T C S
  refine g_aloadN C S dr_0 (pc' := 1) rfl rfl rfl ?_
  refine g_getS C S dr_1 (host := "") (Or.inl (hw _ (List.mem_of_getElem? (i := 13) rfl))) Via.refl S_LAST (pc' := 4) rfl (fun T26 S => ?_)
  refine g_acmp_eq C S rfl rfl dr_4 (pc' := 25) (pf := 7) (by decide) (by decide) rfl (fun hc4 => absurd (Value.ref.inj hc4) nw6_w7) (fun hc4 => ?_)
  refine g_aloadN C S dr_7 (pc' := 8) rfl rfl rfl ?_
  refine g_getS C S dr_8 (host := "") (Or.inl (hw _ (List.mem_of_getElem? (i := 15) rfl))) Via.refl S_POSITION (pc' := 11) rfl (fun T27 S => ?_)
  refine g_acmp_eq C S rfl rfl dr_11 (pc' := 25) (pf := 14) (by decide) (by decide) rfl (fun hc11 => absurd (Value.ref.inj hc11) nw6_w8) (fun hc11 => ?_)
  refine g_aloadN C S dr_14 (pc' := 15) rfl rfl rfl ?_
  refine g_getS C S dr_15 (host := "") (Or.inl (hw _ (List.mem_of_getElem? (i := 17) rfl))) Via.refl S_STRING (pc' := 18) rfl (fun T28 S => ?_)
  refine g_acmp_ne C S rfl rfl dr_18 (pc' := 29) (pf := 21) (by decide) (by decide) rfl (fun hc18 => ?_) (fun hc18 => absurd (Value.ref.inj hc18) nw6_w1)
  refine g_iconst C S (0 : Int32) dr_29 (pc' := 30) rfl rfl ?_
  exact g_retZ C S dr_30 (by decide) (by decide) (by decide) (⟨rfl, rfl⟩)
theorem dp_84 : decode method_2_code 84 = .ok (.iload_n 0, 1) := by decide +kernel
theorem dp_85 : decode method_2_code 85 = .ok (.bipush 7, 2) := by decide +kernel
theorem dp_87 : decode method_2_code 87 = .ok (.if_icmp .ne 10, 3) := by decide +kernel
theorem dp_90 : decode method_2_code 90 = .ok (.getstatic 31, 3) := by decide +kernel
theorem dp_93 : decode method_2_code 93 = .ok (.astore_n 1, 1) := by decide +kernel
theorem dp_94 : decode method_2_code 94 = .ok (.goto 7, 3) := by decide +kernel
set_option maxRecDepth 65536 in
set_option maxHeartbeats 40000000 in
theorem c_pick7 (l : Launch) (Z : State) (a0 : Array Value) (hw : ∀ d ∈ tables_1, d.before a0 Z = true)  (h0 : Heap) (n0 : Nat) (w7 : Addr) (S_LAST : Sta Z h0 "com/example/upupa/upupa/expr/BuiltInFunction" "LAST" "Lcom/example/upupa/upupa/expr/BuiltInFunction;" (.ref w7)) :
    Con l Z (⟨"com/example/upupa/upupa/expr/BuiltInFunctionReadsFocusPinLaw", "pick", "(I)Lcom/example/upupa/upupa/expr/BuiltInFunction;"⟩ : MethodName) method_2_code 2 (some (.object "com/example/upupa/upupa/expr/BuiltInFunction")) ({ frames := 0, cells := 0, slots := 0, locals := 0 } : Room) #[(.int (7 : Int32))] h0 n0 (fun v h => v = some (.ref w7) ∧ h = h0) := by
  refine Con.of (plainFor_of_name (by first | (simp [plainName, overriddenIn]; done) | decide +kernel)) (L0 := #[.val (.int (7 : Int32)), .unset]) (fun m => by first | (simp [entryFrame, mkF, argsToLocals, Value.category]; done) | rfl) ?_
  intro p e s m below meth c T C S
  refine g_iloadN C S dp_0 (pc' := 1) rfl rfl ?_
  refine g_if_ne C S dp_1 (pc' := 11) (pf := 4) (by decide) (by decide) rfl (fun hc1 => ?_) (fun hc1 => absurd hc1 (by decide))
  refine g_iloadN C S dp_11 (pc' := 12) rfl rfl ?_
  refine g_iconst C S (1 : Int32) dp_12 (pc' := 13) rfl rfl ?_
  refine g_icmp_ne C S dp_13 (pc' := 23) (pf := 16) (by decide) (by decide) rfl (fun hc13 => ?_) (fun hc13 => absurd hc13 (by decide))
  refine g_iloadN C S dp_23 (pc' := 24) rfl rfl ?_
  refine g_iconst C S (2 : Int32) dp_24 (pc' := 25) rfl rfl ?_
  refine g_icmp_ne C S dp_25 (pc' := 35) (pf := 28) (by decide) (by decide) rfl (fun hc25 => ?_) (fun hc25 => absurd hc25 (by decide))
  refine g_iloadN C S dp_35 (pc' := 36) rfl rfl ?_
  refine g_iconst C S (3 : Int32) dp_36 (pc' := 37) rfl rfl ?_
  refine g_icmp_ne C S dp_37 (pc' := 47) (pf := 40) (by decide) (by decide) rfl (fun hc37 => ?_) (fun hc37 => absurd hc37 (by decide))
  refine g_iloadN C S dp_47 (pc' := 48) rfl rfl ?_
  refine g_iconst C S (4 : Int32) dp_48 (pc' := 49) rfl rfl ?_
  refine g_icmp_ne C S dp_49 (pc' := 59) (pf := 52) (by decide) (by decide) rfl (fun hc49 => ?_) (fun hc49 => absurd hc49 (by decide))
  refine g_iloadN C S dp_59 (pc' := 60) rfl rfl ?_
  refine g_iconst C S (5 : Int32) dp_60 (pc' := 61) rfl rfl ?_
  refine g_icmp_ne C S dp_61 (pc' := 71) (pf := 64) (by decide) (by decide) rfl (fun hc61 => ?_) (fun hc61 => absurd hc61 (by decide))
  refine g_iloadN C S dp_71 (pc' := 72) rfl rfl ?_
  refine g_bipush C S (6 : Int32) dp_72 (pc' := 74) rfl rfl ?_
  refine g_icmp_ne C S dp_74 (pc' := 84) (pf := 77) (by decide) (by decide) rfl (fun hc74 => ?_) (fun hc74 => absurd hc74 (by decide))
  refine g_iloadN C S dp_84 (pc' := 85) rfl rfl ?_
  refine g_bipush C S (7 : Int32) dp_85 (pc' := 87) rfl rfl ?_
  refine g_icmp_ne C S dp_87 (pc' := 97) (pf := 90) (by decide) (by decide) rfl (fun hc87 => absurd rfl hc87) (fun hc87 => ?_)
  refine g_getS C S dp_90 (host := "") (Or.inl (hw _ (List.mem_of_getElem? (i := 28) rfl))) Via.refl S_LAST (pc' := 93) rfl (fun T29 S => ?_)
  refine g_astoreN C S dp_93 (pc' := 94) rfl rfl (L' := #[.val (.int (7 : Int32)), .val (.ref w7)]) rfl ?_
  refine g_goto C S dp_94 (pc' := 101) (by decide) (by decide) ?_
  refine g_aloadN C S dp_101 (pc' := 102) rfl rfl rfl ?_
  exact g_retA C S dp_102 rfl rfl rfl (by decide) (by decide) (⟨rfl, rfl⟩)
theorem de_12 : decode method_3_code 12 = .ok (.iconst 1, 1) := by decide +kernel
theorem de_13 : decode method_3_code 13 = .ok (.istore_n 2, 1) := by decide +kernel
theorem de_14 : decode method_3_code 14 = .ok (.goto 23, 3) := by decide +kernel
set_option maxRecDepth 65536 in
set_option maxHeartbeats 40000000 in
theorem c_exp7 (l : Launch) (Z : State) (a0 : Array Value) (hw : ∀ d ∈ tables_1, d.before a0 Z = true) (p2 : Int32) (h0 : Heap) (n0 : Nat) :
    Con l Z (⟨"com/example/upupa/upupa/expr/BuiltInFunctionReadsFocusPinLaw", "expected", "(II)Z"⟩ : MethodName) method_3_code 3 (some .boolean) ({ frames := 0, cells := 0, slots := 0, locals := 0 } : Room) #[(.int (7 : Int32)), (.int p2)] h0 n0 (fun v h => v = some (.int 1) ∧ h = h0) := by
  refine Con.of (plainFor_of_name (by first | (simp [plainName, overriddenIn]; done) | decide +kernel)) (L0 := #[.val (.int (7 : Int32)), .val (.int p2), .unset]) (fun m => by first | (simp [entryFrame, mkF, argsToLocals, Value.category]; done) | rfl) ?_
  intro p e s m below meth c T C S
  refine g_iloadN C S de_0 (pc' := 1) rfl rfl ?_
  refine g_bipush C S (7 : Int32) de_1 (pc' := 3) rfl rfl ?_
  refine g_icmp_eq C S de_3 (pc' := 12) (pf := 6) (by decide) (by decide) rfl (fun hc3 => ?_) (fun hc3 => absurd rfl hc3)
  refine g_iconst C S (1 : Int32) de_12 (pc' := 13) rfl rfl ?_
  refine g_istoreN C S de_13 (pc' := 14) rfl (L' := #[.val (.int (7 : Int32)), .val (.int p2), .val (.int (1 : Int32))]) rfl ?_
  refine g_goto C S de_14 (pc' := 37) (by decide) (by decide) ?_
  refine g_iloadN C S de_37 (pc' := 38) rfl rfl ?_
  exact g_retZ C S de_38 (by decide) (by decide) (by decide) (⟨rfl, rfl⟩)
set_option maxRecDepth 65536 in
set_option maxHeartbeats 40000000 in
theorem c_rf7 (l : Launch) (Z : State) (a0 : Array Value) (hw : ∀ d ∈ tables_1, d.before a0 Z = true) (w7 : Addr) (p2 : Int32) (h0 : Heap) (n0 : Nat) (w1 : Addr) (w8 : Addr) (S_LAST : Sta Z h0 "com/example/upupa/upupa/expr/BuiltInFunction" "LAST" "Lcom/example/upupa/upupa/expr/BuiltInFunction;" (.ref w7)) (S_POSITION : Sta Z h0 "com/example/upupa/upupa/expr/BuiltInFunction" "POSITION" "Lcom/example/upupa/upupa/expr/BuiltInFunction;" (.ref w8)) (S_STRING : Sta Z h0 "com/example/upupa/upupa/expr/BuiltInFunction" "STRING" "Lcom/example/upupa/upupa/expr/BuiltInFunction;" (.ref w1)) (nw7_w1 : w7 ≠ w1) (nw7_w8 : w7 ≠ w8) :
    Con l Z (⟨"com/example/upupa/upupa/expr/BuiltInFunction", "readsFocus", "(I)Z"⟩ : MethodName) prog_4_method_7_code 2 (some .boolean) ({ frames := 0, cells := 0, slots := 0, locals := 0 } : Room) #[(.ref w7), (.int p2)] h0 n0 (fun v h => v = some (.int 1) ∧ h = h0) := by
  refine Con.of (plainFor_of_name (by first | (simp [plainName, overriddenIn]; done) | decide +kernel)) (L0 := #[.val (.ref w7), .val (.int p2)]) (fun m => by first | (simp [entryFrame, mkF, argsToLocals, Value.category]; done) | rfl) ?_
  intro p e s m below meth c T C S
  refine g_aloadN C S dr_0 (pc' := 1) rfl rfl rfl ?_
  refine g_getS C S dr_1 (host := "") (Or.inl (hw _ (List.mem_of_getElem? (i := 13) rfl))) Via.refl S_LAST (pc' := 4) rfl (fun T30 S => ?_)
  refine g_acmp_eq C S rfl rfl dr_4 (pc' := 25) (pf := 7) (by decide) (by decide) rfl (fun hc4 => ?_) (fun hc4 => absurd rfl hc4)
  refine g_iconst C S (1 : Int32) dr_25 (pc' := 26) rfl rfl ?_
  refine g_goto C S dr_26 (pc' := 30) (by decide) (by decide) ?_
  exact g_retZ C S dr_30 (by decide) (by decide) (by decide) (⟨rfl, rfl⟩)
theorem dp_97 : decode method_2_code 97 = .ok (.getstatic 34, 3) := by decide +kernel
theorem dp_100 : decode method_2_code 100 = .ok (.astore_n 1, 1) := by decide +kernel
set_option maxRecDepth 65536 in
set_option maxHeartbeats 40000000 in
theorem c_pick8 (l : Launch) (Z : State) (a0 : Array Value) (hw : ∀ d ∈ tables_1, d.before a0 Z = true)  (h0 : Heap) (n0 : Nat) (w8 : Addr) (S_POSITION : Sta Z h0 "com/example/upupa/upupa/expr/BuiltInFunction" "POSITION" "Lcom/example/upupa/upupa/expr/BuiltInFunction;" (.ref w8)) :
    Con l Z (⟨"com/example/upupa/upupa/expr/BuiltInFunctionReadsFocusPinLaw", "pick", "(I)Lcom/example/upupa/upupa/expr/BuiltInFunction;"⟩ : MethodName) method_2_code 2 (some (.object "com/example/upupa/upupa/expr/BuiltInFunction")) ({ frames := 0, cells := 0, slots := 0, locals := 0 } : Room) #[(.int (8 : Int32))] h0 n0 (fun v h => v = some (.ref w8) ∧ h = h0) := by
  refine Con.of (plainFor_of_name (by first | (simp [plainName, overriddenIn]; done) | decide +kernel)) (L0 := #[.val (.int (8 : Int32)), .unset]) (fun m => by first | (simp [entryFrame, mkF, argsToLocals, Value.category]; done) | rfl) ?_
  intro p e s m below meth c T C S
  refine g_iloadN C S dp_0 (pc' := 1) rfl rfl ?_
  refine g_if_ne C S dp_1 (pc' := 11) (pf := 4) (by decide) (by decide) rfl (fun hc1 => ?_) (fun hc1 => absurd hc1 (by decide))
  refine g_iloadN C S dp_11 (pc' := 12) rfl rfl ?_
  refine g_iconst C S (1 : Int32) dp_12 (pc' := 13) rfl rfl ?_
  refine g_icmp_ne C S dp_13 (pc' := 23) (pf := 16) (by decide) (by decide) rfl (fun hc13 => ?_) (fun hc13 => absurd hc13 (by decide))
  refine g_iloadN C S dp_23 (pc' := 24) rfl rfl ?_
  refine g_iconst C S (2 : Int32) dp_24 (pc' := 25) rfl rfl ?_
  refine g_icmp_ne C S dp_25 (pc' := 35) (pf := 28) (by decide) (by decide) rfl (fun hc25 => ?_) (fun hc25 => absurd hc25 (by decide))
  refine g_iloadN C S dp_35 (pc' := 36) rfl rfl ?_
  refine g_iconst C S (3 : Int32) dp_36 (pc' := 37) rfl rfl ?_
  refine g_icmp_ne C S dp_37 (pc' := 47) (pf := 40) (by decide) (by decide) rfl (fun hc37 => ?_) (fun hc37 => absurd hc37 (by decide))
  refine g_iloadN C S dp_47 (pc' := 48) rfl rfl ?_
  refine g_iconst C S (4 : Int32) dp_48 (pc' := 49) rfl rfl ?_
  refine g_icmp_ne C S dp_49 (pc' := 59) (pf := 52) (by decide) (by decide) rfl (fun hc49 => ?_) (fun hc49 => absurd hc49 (by decide))
  refine g_iloadN C S dp_59 (pc' := 60) rfl rfl ?_
  refine g_iconst C S (5 : Int32) dp_60 (pc' := 61) rfl rfl ?_
  refine g_icmp_ne C S dp_61 (pc' := 71) (pf := 64) (by decide) (by decide) rfl (fun hc61 => ?_) (fun hc61 => absurd hc61 (by decide))
  refine g_iloadN C S dp_71 (pc' := 72) rfl rfl ?_
  refine g_bipush C S (6 : Int32) dp_72 (pc' := 74) rfl rfl ?_
  refine g_icmp_ne C S dp_74 (pc' := 84) (pf := 77) (by decide) (by decide) rfl (fun hc74 => ?_) (fun hc74 => absurd hc74 (by decide))
  refine g_iloadN C S dp_84 (pc' := 85) rfl rfl ?_
  refine g_bipush C S (7 : Int32) dp_85 (pc' := 87) rfl rfl ?_
  refine g_icmp_ne C S dp_87 (pc' := 97) (pf := 90) (by decide) (by decide) rfl (fun hc87 => ?_) (fun hc87 => absurd hc87 (by decide))
  refine g_getS C S dp_97 (host := "") (Or.inl (hw _ (List.mem_of_getElem? (i := 25) rfl))) Via.refl S_POSITION (pc' := 100) rfl (fun T31 S => ?_)
  refine g_astoreN C S dp_100 (pc' := 101) rfl rfl (L' := #[.val (.int (8 : Int32)), .val (.ref w8)]) rfl ?_
  refine g_aloadN C S dp_101 (pc' := 102) rfl rfl rfl ?_
  exact g_retA C S dp_102 rfl rfl rfl (by decide) (by decide) (⟨rfl, rfl⟩)
set_option maxRecDepth 65536 in
set_option maxHeartbeats 40000000 in
theorem c_exp8 (l : Launch) (Z : State) (a0 : Array Value) (hw : ∀ d ∈ tables_1, d.before a0 Z = true) (p2 : Int32) (h0 : Heap) (n0 : Nat) :
    Con l Z (⟨"com/example/upupa/upupa/expr/BuiltInFunctionReadsFocusPinLaw", "expected", "(II)Z"⟩ : MethodName) method_3_code 3 (some .boolean) ({ frames := 0, cells := 0, slots := 0, locals := 0 } : Room) #[(.int (8 : Int32)), (.int p2)] h0 n0 (fun v h => v = some (.int 1) ∧ h = h0) := by
  refine Con.of (plainFor_of_name (by first | (simp [plainName, overriddenIn]; done) | decide +kernel)) (L0 := #[.val (.int (8 : Int32)), .val (.int p2), .unset]) (fun m => by first | (simp [entryFrame, mkF, argsToLocals, Value.category]; done) | rfl) ?_
  intro p e s m below meth c T C S
  refine g_iloadN C S de_0 (pc' := 1) rfl rfl ?_
  refine g_bipush C S (7 : Int32) de_1 (pc' := 3) rfl rfl ?_
  refine g_icmp_eq C S de_3 (pc' := 12) (pf := 6) (by decide) (by decide) rfl (fun hc3 => absurd hc3 (by decide)) (fun hc3 => ?_)
  refine g_iloadN C S de_6 (pc' := 7) rfl rfl ?_
  refine g_bipush C S (8 : Int32) de_7 (pc' := 9) rfl rfl ?_
  refine g_icmp_ne C S de_9 (pc' := 17) (pf := 12) (by decide) (by decide) rfl (fun hc9 => absurd rfl hc9) (fun hc9 => ?_)
  refine g_iconst C S (1 : Int32) de_12 (pc' := 13) rfl rfl ?_
  refine g_istoreN C S de_13 (pc' := 14) rfl (L' := #[.val (.int (8 : Int32)), .val (.int p2), .val (.int (1 : Int32))]) rfl ?_
  refine g_goto C S de_14 (pc' := 37) (by decide) (by decide) ?_
  refine g_iloadN C S de_37 (pc' := 38) rfl rfl ?_
  exact g_retZ C S de_38 (by decide) (by decide) (by decide) (⟨rfl, rfl⟩)
set_option maxRecDepth 65536 in
set_option maxHeartbeats 40000000 in
theorem c_rf8 (l : Launch) (Z : State) (a0 : Array Value) (hw : ∀ d ∈ tables_1, d.before a0 Z = true) (w8 : Addr) (p2 : Int32) (h0 : Heap) (n0 : Nat) (w1 : Addr) (w7 : Addr) (S_LAST : Sta Z h0 "com/example/upupa/upupa/expr/BuiltInFunction" "LAST" "Lcom/example/upupa/upupa/expr/BuiltInFunction;" (.ref w7)) (S_POSITION : Sta Z h0 "com/example/upupa/upupa/expr/BuiltInFunction" "POSITION" "Lcom/example/upupa/upupa/expr/BuiltInFunction;" (.ref w8)) (S_STRING : Sta Z h0 "com/example/upupa/upupa/expr/BuiltInFunction" "STRING" "Lcom/example/upupa/upupa/expr/BuiltInFunction;" (.ref w1)) (nw8_w1 : w8 ≠ w1) (nw8_w7 : w8 ≠ w7) :
    Con l Z (⟨"com/example/upupa/upupa/expr/BuiltInFunction", "readsFocus", "(I)Z"⟩ : MethodName) prog_4_method_7_code 2 (some .boolean) ({ frames := 0, cells := 0, slots := 0, locals := 0 } : Room) #[(.ref w8), (.int p2)] h0 n0 (fun v h => v = some (.int 1) ∧ h = h0) := by
  refine Con.of (plainFor_of_name (by first | (simp [plainName, overriddenIn]; done) | decide +kernel)) (L0 := #[.val (.ref w8), .val (.int p2)]) (fun m => by first | (simp [entryFrame, mkF, argsToLocals, Value.category]; done) | rfl) ?_
  intro p e s m below meth c T C S
  refine g_aloadN C S dr_0 (pc' := 1) rfl rfl rfl ?_
  refine g_getS C S dr_1 (host := "") (Or.inl (hw _ (List.mem_of_getElem? (i := 13) rfl))) Via.refl S_LAST (pc' := 4) rfl (fun T32 S => ?_)
  refine g_acmp_eq C S rfl rfl dr_4 (pc' := 25) (pf := 7) (by decide) (by decide) rfl (fun hc4 => absurd (Value.ref.inj hc4) nw8_w7) (fun hc4 => ?_)
  refine g_aloadN C S dr_7 (pc' := 8) rfl rfl rfl ?_
  refine g_getS C S dr_8 (host := "") (Or.inl (hw _ (List.mem_of_getElem? (i := 15) rfl))) Via.refl S_POSITION (pc' := 11) rfl (fun T33 S => ?_)
  refine g_acmp_eq C S rfl rfl dr_11 (pc' := 25) (pf := 14) (by decide) (by decide) rfl (fun hc11 => ?_) (fun hc11 => absurd rfl hc11)
  refine g_iconst C S (1 : Int32) dr_25 (pc' := 26) rfl rfl ?_
  refine g_goto C S dr_26 (pc' := 30) (by decide) (by decide) ?_
  exact g_retZ C S dr_30 (by decide) (by decide) (by decide) (⟨rfl, rfl⟩)
theorem own_k (p1 : Int32) : ((p1 &&& (2147483647 : Int32)) % (9 : Int32)) = 0 ∨ ((p1 &&& (2147483647 : Int32)) % (9 : Int32)) = 1 ∨ ((p1 &&& (2147483647 : Int32)) % (9 : Int32)) = 2 ∨ ((p1 &&& (2147483647 : Int32)) % (9 : Int32)) = 3 ∨ ((p1 &&& (2147483647 : Int32)) % (9 : Int32)) = 4 ∨ ((p1 &&& (2147483647 : Int32)) % (9 : Int32)) = 5 ∨ ((p1 &&& (2147483647 : Int32)) % (9 : Int32)) = 6 ∨ ((p1 &&& (2147483647 : Int32)) % (9 : Int32)) = 7 ∨ ((p1 &&& (2147483647 : Int32)) % (9 : Int32)) = 8 := by
  have e1 : (p1 &&& (2147483647 : Int32)).toInt = p1.toInt % 2 ^ 31 := Jvm.Kit.i32_mask p1 _ (k := 31) (by decide) (by decide)
  have e2 : ((p1 &&& (2147483647 : Int32)) % (9 : Int32)).toInt = (p1 &&& (2147483647 : Int32)).toInt % 9 := Jvm.Kit.i32_rem_nonneg (by rw [e1]; omega)
  simp only [← Int32.toInt_inj, Int32.reduceToInt]
  omega
theorem pd_0 : parseMethodDescriptor "(I)Lcom/example/upupa/upupa/expr/BuiltInFunction;" = some ⟨[.int], some (.object "com/example/upupa/upupa/expr/BuiltInFunction")⟩ := by decide +kernel
theorem pd_1 : parseMethodDescriptor "(I)Z" = some ⟨[.int], some .boolean⟩ := by decide +kernel
theorem pd_2 : parseMethodDescriptor "(II)Z" = some ⟨[.int, .int], some .boolean⟩ := by decide +kernel
set_option maxRecDepth 65536 in
set_option maxHeartbeats 40000000 in
theorem c_law (l : Launch) (Z : State) (a0 : Array Value) (hw : ∀ d ∈ tables_1, d.before a0 Z = true) (p1 : Int32) (p2 : Int32) (p3 : Int32) (h0 : Heap) (n0 : Nat) (w0 : Addr) (w1 : Addr) (w2 : Addr) (w3 : Addr) (w4 : Addr) (w5 : Addr) (w6 : Addr) (w7 : Addr) (w8 : Addr) (S_COUNT : Sta Z h0 "com/example/upupa/upupa/expr/BuiltInFunction" "COUNT" "Lcom/example/upupa/upupa/expr/BuiltInFunction;" (.ref w0)) (S_STRING : Sta Z h0 "com/example/upupa/upupa/expr/BuiltInFunction" "STRING" "Lcom/example/upupa/upupa/expr/BuiltInFunction;" (.ref w1)) (S_NOT : Sta Z h0 "com/example/upupa/upupa/expr/BuiltInFunction" "NOT" "Lcom/example/upupa/upupa/expr/BuiltInFunction;" (.ref w2)) (S_TRUE : Sta Z h0 "com/example/upupa/upupa/expr/BuiltInFunction" "TRUE" "Lcom/example/upupa/upupa/expr/BuiltInFunction;" (.ref w3)) (S_FALSE : Sta Z h0 "com/example/upupa/upupa/expr/BuiltInFunction" "FALSE" "Lcom/example/upupa/upupa/expr/BuiltInFunction;" (.ref w4)) (S_MIN : Sta Z h0 "com/example/upupa/upupa/expr/BuiltInFunction" "MIN" "Lcom/example/upupa/upupa/expr/BuiltInFunction;" (.ref w5)) (S_MAX : Sta Z h0 "com/example/upupa/upupa/expr/BuiltInFunction" "MAX" "Lcom/example/upupa/upupa/expr/BuiltInFunction;" (.ref w6)) (S_LAST : Sta Z h0 "com/example/upupa/upupa/expr/BuiltInFunction" "LAST" "Lcom/example/upupa/upupa/expr/BuiltInFunction;" (.ref w7)) (S_POSITION : Sta Z h0 "com/example/upupa/upupa/expr/BuiltInFunction" "POSITION" "Lcom/example/upupa/upupa/expr/BuiltInFunction;" (.ref w8)) (X0 : Exa Z h0 w0 "com/example/upupa/upupa/expr/BuiltInFunction") (X1 : Exa Z h0 w1 "com/example/upupa/upupa/expr/BuiltInFunction") (X2 : Exa Z h0 w2 "com/example/upupa/upupa/expr/BuiltInFunction") (X3 : Exa Z h0 w3 "com/example/upupa/upupa/expr/BuiltInFunction") (X4 : Exa Z h0 w4 "com/example/upupa/upupa/expr/BuiltInFunction") (X5 : Exa Z h0 w5 "com/example/upupa/upupa/expr/BuiltInFunction") (X6 : Exa Z h0 w6 "com/example/upupa/upupa/expr/BuiltInFunction") (X7 : Exa Z h0 w7 "com/example/upupa/upupa/expr/BuiltInFunction") (X8 : Exa Z h0 w8 "com/example/upupa/upupa/expr/BuiltInFunction") (ne_0_1 : w0 ≠ w1) (ne_0_7 : w0 ≠ w7) (ne_0_8 : w0 ≠ w8) (ne_1_7 : w1 ≠ w7) (ne_1_8 : w1 ≠ w8) (ne_2_1 : w2 ≠ w1) (ne_2_7 : w2 ≠ w7) (ne_2_8 : w2 ≠ w8) (ne_3_1 : w3 ≠ w1) (ne_3_7 : w3 ≠ w7) (ne_3_8 : w3 ≠ w8) (ne_4_1 : w4 ≠ w1) (ne_4_7 : w4 ≠ w7) (ne_4_8 : w4 ≠ w8) (ne_5_1 : w5 ≠ w1) (ne_5_7 : w5 ≠ w7) (ne_5_8 : w5 ≠ w8) (ne_6_1 : w6 ≠ w1) (ne_6_7 : w6 ≠ w7) (ne_6_8 : w6 ≠ w8) (ne_7_1 : w7 ≠ w1) (ne_7_8 : w7 ≠ w8) (ne_8_1 : w8 ≠ w1) (ne_8_7 : w8 ≠ w7) :
    Con l Z x code maxLocals ret room_1 #[(.int p1), (.int p2), (.int p3)] h0 n0 (fun v h => v = some (.int 1)) := by
  refine Con.of (plainFor_of_name (by first | (simp [plainName, overriddenIn, x]; done) | decide +kernel)) (L0 := #[.val (.int p1), .val (.int p2), .val (.int p3), .unset, .unset, .unset]) (fun m => by first | (simp [entryFrame, mkF, argsToLocals, Value.category, maxLocals]; done) | rfl) ?_
  intro p e s m below meth c T C S
  refine g_iloadN C S at_0 (pc' := 1) rfl rfl ?_
  refine g_ldc C S at_1 (hw _ (List.mem_of_getElem? (i := 0) rfl)) (pc' := 3) rfl ?_
  refine g_iand C S at_3 (pc' := 4) rfl ?_
  refine g_bipush C S (9 : Int32) at_4 (pc' := 6) rfl rfl ?_
  refine g_irem C S at_6 (pc' := 7) rfl (by decide) ?_
  refine g_istoreN C S at_7 (pc' := 8) rfl (L' := #[.val (.int p1), .val (.int p2), .val (.int p3), .val (.int ((p1 &&& (2147483647 : Int32)) % (9 : Int32))), .unset, .unset]) rfl ?_
  obtain ⟨kk, hkk⟩ : ∃ z, z = ((p1 &&& (2147483647 : Int32)) % (9 : Int32)) := ⟨_, rfl⟩
  rw [← hkk]
  have hk := own_k p1; rw [← hkk] at hk
  rcases hk with rfl | rfl | rfl | rfl | rfl | rfl | rfl | rfl | rfl
  · refine g_iloadN C S at_8 (pc' := 9) rfl rfl ?_
    refine g_iconst C S (1 : Int32) at_9 (pc' := 10) rfl rfl ?_
    refine g_iand C S at_10 (pc' := 11) rfl ?_
    refine g_if_eq C S at_11 (pc' := 18) (pf := 14) (by decide) (by decide) rfl (fun hc11 => ?_) (fun hc11 => ?_)
    · refine g_iloadN C S at_18 (pc' := 19) rfl rfl ?_
      refine g_istore C S at_19 (pc' := 21) rfl (L' := #[.val (.int p1), .val (.int p2), .val (.int p3), .val (.int (0 : Int32)), .val (.int p2), .unset]) rfl ?_
      refine g_iloadN C S at_21 (pc' := 22) rfl rfl ?_
      refine g_callS C S (rm := ({ frames := 0, cells := 0, slots := 0, locals := 0 } : Room)) (W := 0) at_22 (hw _ (List.mem_of_getElem? (i := 1) rfl)) (hw _ (List.mem_of_getElem? (i := 2) rfl)) (hw _ (List.mem_of_getElem? (i := 3) rfl)) (hw _ (List.mem_of_getElem? (i := 4) rfl)) (by decide) (c_pick0 l Z a0 hw h0 n0 w0 S_COUNT) (argsL := [(.int (0 : Int32))]) (r := []) rfl (lenOf pd_0 rfl) rfl (Nat.le_of_eq rfl) (by decide) (by decide) (by decide) (by decide) (pc' := 25) rfl (fun T34 h34 v34 q34 S => ?_)
      obtain ⟨rfl, e34⟩ := q34; rw [e34] at S
      show Gl p e below s _ n0 _ T34 (mkF m 25 #[.val (.int p1), .val (.int p2), .val (.int p3), .val (.int (0 : Int32)), .val (.int p2), .unset] [(.ref w0)])
      refine g_astore C S at_25 (pc' := 27) rfl rfl (L' := #[.val (.int p1), .val (.int p2), .val (.int p3), .val (.int (0 : Int32)), .val (.int p2), .val (.ref w0)]) rfl ?_
      refine g_aload C S at_27 (pc' := 29) rfl rfl rfl ?_
      refine g_iload C S at_29 (pc' := 31) rfl rfl ?_
      refine g_callV C S (rm := ({ frames := 0, cells := 0, slots := 0, locals := 0 } : Room)) (W := 0) at_31 (hw _ (List.mem_of_getElem? (i := 8) rfl)) (hw _ (List.mem_of_getElem? (i := 9) rfl)) (notFace_of_selects (args := #[]) (mvT C.2.1 (hw _ (List.mem_of_getElem? (i := 11) rfl)))) (hw _ (List.mem_of_getElem? (i := 11) rfl)) (hw _ (List.mem_of_getElem? (i := 10) rfl)) (hw _ (List.mem_of_getElem? (i := 6) rfl)) (hw _ (List.mem_of_getElem? (i := 12) rfl)) (by decide) rfl X0 (c_rf0 l Z a0 hw w0 p2 h0 n0 w1 w7 w8 S_LAST S_POSITION S_STRING ne_0_1 ne_0_7 ne_0_8) (argsL := [(.int p2)]) (r := []) rfl (lenOf pd_1 rfl) rfl (Nat.le_of_eq rfl) (by decide) (by decide) (by decide) (by decide) (pc' := 34) rfl (fun T35 h35 v35 q35 S => ?_)
      obtain ⟨rfl, e35⟩ := q35; rw [e35] at S
      show Gl p e below s _ n0 _ T35 (mkF m 34 #[.val (.int p1), .val (.int p2), .val (.int p3), .val (.int (0 : Int32)), .val (.int p2), .val (.ref w0)] [(.int 0)])
      refine g_iloadN C S at_34 (pc' := 35) rfl rfl ?_
      refine g_iload C S at_35 (pc' := 37) rfl rfl ?_
      refine g_callS C S (rm := ({ frames := 0, cells := 0, slots := 0, locals := 0 } : Room)) (W := 1) at_37 (hw _ (List.mem_of_getElem? (i := 19) rfl)) (hw _ (List.mem_of_getElem? (i := 20) rfl)) (hw _ (List.mem_of_getElem? (i := 3) rfl)) (hw _ (List.mem_of_getElem? (i := 21) rfl)) (by decide) (c_exp0 l Z a0 hw p2 h0 n0) (argsL := [(.int (0 : Int32)), (.int p2)]) (r := [(.int 0)]) rfl (lenOf pd_2 rfl) rfl (Nat.le_of_eq rfl) (by decide) (by decide) (by decide) (by decide) (pc' := 40) rfl (fun T36 h36 v36 q36 S => ?_)
      obtain ⟨rfl, e36⟩ := q36; rw [e36] at S
      show Gl p e below s _ n0 _ T36 (mkF m 40 #[.val (.int p1), .val (.int p2), .val (.int p3), .val (.int (0 : Int32)), .val (.int p2), .val (.ref w0)] [(.int 0), (.int 0)])
      refine g_icmp_ne C S at_40 (pc' := 47) (pf := 43) (by decide) (by decide) rfl (fun hc40 => absurd rfl hc40) (fun hc40 => ?_)
      refine g_iconst C S (1 : Int32) at_43 (pc' := 44) rfl rfl ?_
      refine g_goto C S at_44 (pc' := 48) (by decide) (by decide) ?_
      exact g_retZ C S at_48 (by decide) (by decide) (by decide) (rfl)
    · refine g_iconst C S (0 : Int32) at_14 (pc' := 15) rfl rfl ?_
      refine g_goto C S at_15 (pc' := 19) (by decide) (by decide) ?_
      refine g_istore C S at_19 (pc' := 21) rfl (L' := #[.val (.int p1), .val (.int p2), .val (.int p3), .val (.int (0 : Int32)), .val (.int (0 : Int32)), .unset]) rfl ?_
      refine g_iloadN C S at_21 (pc' := 22) rfl rfl ?_
      refine g_callS C S (rm := ({ frames := 0, cells := 0, slots := 0, locals := 0 } : Room)) (W := 0) at_22 (hw _ (List.mem_of_getElem? (i := 1) rfl)) (hw _ (List.mem_of_getElem? (i := 2) rfl)) (hw _ (List.mem_of_getElem? (i := 3) rfl)) (hw _ (List.mem_of_getElem? (i := 4) rfl)) (by decide) (c_pick0 l Z a0 hw h0 n0 w0 S_COUNT) (argsL := [(.int (0 : Int32))]) (r := []) rfl (lenOf pd_0 rfl) rfl (Nat.le_of_eq rfl) (by decide) (by decide) (by decide) (by decide) (pc' := 25) rfl (fun T37 h37 v37 q37 S => ?_)
      obtain ⟨rfl, e37⟩ := q37; rw [e37] at S
      show Gl p e below s _ n0 _ T37 (mkF m 25 #[.val (.int p1), .val (.int p2), .val (.int p3), .val (.int (0 : Int32)), .val (.int (0 : Int32)), .unset] [(.ref w0)])
      refine g_astore C S at_25 (pc' := 27) rfl rfl (L' := #[.val (.int p1), .val (.int p2), .val (.int p3), .val (.int (0 : Int32)), .val (.int (0 : Int32)), .val (.ref w0)]) rfl ?_
      refine g_aload C S at_27 (pc' := 29) rfl rfl rfl ?_
      refine g_iload C S at_29 (pc' := 31) rfl rfl ?_
      refine g_callV C S (rm := ({ frames := 0, cells := 0, slots := 0, locals := 0 } : Room)) (W := 0) at_31 (hw _ (List.mem_of_getElem? (i := 8) rfl)) (hw _ (List.mem_of_getElem? (i := 9) rfl)) (notFace_of_selects (args := #[]) (mvT C.2.1 (hw _ (List.mem_of_getElem? (i := 11) rfl)))) (hw _ (List.mem_of_getElem? (i := 11) rfl)) (hw _ (List.mem_of_getElem? (i := 10) rfl)) (hw _ (List.mem_of_getElem? (i := 6) rfl)) (hw _ (List.mem_of_getElem? (i := 12) rfl)) (by decide) rfl X0 (c_rf0 l Z a0 hw w0 (0 : Int32) h0 n0 w1 w7 w8 S_LAST S_POSITION S_STRING ne_0_1 ne_0_7 ne_0_8) (argsL := [(.int (0 : Int32))]) (r := []) rfl (lenOf pd_1 rfl) rfl (Nat.le_of_eq rfl) (by decide) (by decide) (by decide) (by decide) (pc' := 34) rfl (fun T38 h38 v38 q38 S => ?_)
      obtain ⟨rfl, e38⟩ := q38; rw [e38] at S
      show Gl p e below s _ n0 _ T38 (mkF m 34 #[.val (.int p1), .val (.int p2), .val (.int p3), .val (.int (0 : Int32)), .val (.int (0 : Int32)), .val (.ref w0)] [(.int 0)])
      refine g_iloadN C S at_34 (pc' := 35) rfl rfl ?_
      refine g_iload C S at_35 (pc' := 37) rfl rfl ?_
      refine g_callS C S (rm := ({ frames := 0, cells := 0, slots := 0, locals := 0 } : Room)) (W := 1) at_37 (hw _ (List.mem_of_getElem? (i := 19) rfl)) (hw _ (List.mem_of_getElem? (i := 20) rfl)) (hw _ (List.mem_of_getElem? (i := 3) rfl)) (hw _ (List.mem_of_getElem? (i := 21) rfl)) (by decide) (c_exp0 l Z a0 hw (0 : Int32) h0 n0) (argsL := [(.int (0 : Int32)), (.int (0 : Int32))]) (r := [(.int 0)]) rfl (lenOf pd_2 rfl) rfl (Nat.le_of_eq rfl) (by decide) (by decide) (by decide) (by decide) (pc' := 40) rfl (fun T39 h39 v39 q39 S => ?_)
      obtain ⟨rfl, e39⟩ := q39; rw [e39] at S
      show Gl p e below s _ n0 _ T39 (mkF m 40 #[.val (.int p1), .val (.int p2), .val (.int p3), .val (.int (0 : Int32)), .val (.int (0 : Int32)), .val (.ref w0)] [(.int 0), (.int 0)])
      refine g_icmp_ne C S at_40 (pc' := 47) (pf := 43) (by decide) (by decide) rfl (fun hc40 => absurd rfl hc40) (fun hc40 => ?_)
      refine g_iconst C S (1 : Int32) at_43 (pc' := 44) rfl rfl ?_
      refine g_goto C S at_44 (pc' := 48) (by decide) (by decide) ?_
      exact g_retZ C S at_48 (by decide) (by decide) (by decide) (rfl)
  · refine g_iloadN C S at_8 (pc' := 9) rfl rfl ?_
    refine g_iconst C S (1 : Int32) at_9 (pc' := 10) rfl rfl ?_
    refine g_iand C S at_10 (pc' := 11) rfl ?_
    refine g_if_eq C S at_11 (pc' := 18) (pf := 14) (by decide) (by decide) rfl (fun hc11 => ?_) (fun hc11 => ?_)
    · refine g_iloadN C S at_18 (pc' := 19) rfl rfl ?_
      refine g_istore C S at_19 (pc' := 21) rfl (L' := #[.val (.int p1), .val (.int p2), .val (.int p3), .val (.int (1 : Int32)), .val (.int p2), .unset]) rfl ?_
      refine g_iloadN C S at_21 (pc' := 22) rfl rfl ?_
      refine g_callS C S (rm := ({ frames := 0, cells := 0, slots := 0, locals := 0 } : Room)) (W := 0) at_22 (hw _ (List.mem_of_getElem? (i := 1) rfl)) (hw _ (List.mem_of_getElem? (i := 2) rfl)) (hw _ (List.mem_of_getElem? (i := 3) rfl)) (hw _ (List.mem_of_getElem? (i := 4) rfl)) (by decide) (c_pick1 l Z a0 hw h0 n0 w1 S_STRING) (argsL := [(.int (1 : Int32))]) (r := []) rfl (lenOf pd_0 rfl) rfl (Nat.le_of_eq rfl) (by decide) (by decide) (by decide) (by decide) (pc' := 25) rfl (fun T40 h40 v40 q40 S => ?_)
      obtain ⟨rfl, e40⟩ := q40; rw [e40] at S
      show Gl p e below s _ n0 _ T40 (mkF m 25 #[.val (.int p1), .val (.int p2), .val (.int p3), .val (.int (1 : Int32)), .val (.int p2), .unset] [(.ref w1)])
      refine g_astore C S at_25 (pc' := 27) rfl rfl (L' := #[.val (.int p1), .val (.int p2), .val (.int p3), .val (.int (1 : Int32)), .val (.int p2), .val (.ref w1)]) rfl ?_
      refine g_aload C S at_27 (pc' := 29) rfl rfl rfl ?_
      refine g_iload C S at_29 (pc' := 31) rfl rfl ?_
      refine g_callV C S (rm := ({ frames := 0, cells := 0, slots := 0, locals := 0 } : Room)) (W := 0) at_31 (hw _ (List.mem_of_getElem? (i := 8) rfl)) (hw _ (List.mem_of_getElem? (i := 9) rfl)) (notFace_of_selects (args := #[]) (mvT C.2.1 (hw _ (List.mem_of_getElem? (i := 11) rfl)))) (hw _ (List.mem_of_getElem? (i := 11) rfl)) (hw _ (List.mem_of_getElem? (i := 10) rfl)) (hw _ (List.mem_of_getElem? (i := 6) rfl)) (hw _ (List.mem_of_getElem? (i := 12) rfl)) (by decide) rfl X1 (c_rf1 l Z a0 hw w1 p2 h0 n0 w7 w8 S_LAST S_POSITION S_STRING ne_1_7 ne_1_8) (argsL := [(.int p2)]) (r := []) rfl (lenOf pd_1 rfl) rfl (Nat.le_of_eq rfl) (by decide) (by decide) (by decide) (by decide) (pc' := 34) rfl (fun T41 h41 v41 q41 S => ?_)
      obtain ⟨rfl, e41⟩ := q41; rw [e41] at S
      show Gl p e below s _ n0 _ T41 (mkF m 34 #[.val (.int p1), .val (.int p2), .val (.int p3), .val (.int (1 : Int32)), .val (.int p2), .val (.ref w1)] [(.int (own_z p2))])
      refine g_iloadN C S at_34 (pc' := 35) rfl rfl ?_
      refine g_iload C S at_35 (pc' := 37) rfl rfl ?_
      refine g_callS C S (rm := ({ frames := 0, cells := 0, slots := 0, locals := 0 } : Room)) (W := 1) at_37 (hw _ (List.mem_of_getElem? (i := 19) rfl)) (hw _ (List.mem_of_getElem? (i := 20) rfl)) (hw _ (List.mem_of_getElem? (i := 3) rfl)) (hw _ (List.mem_of_getElem? (i := 21) rfl)) (by decide) (c_exp1 l Z a0 hw p2 h0 n0) (argsL := [(.int (1 : Int32)), (.int p2)]) (r := [(.int (own_z p2))]) rfl (lenOf pd_2 rfl) rfl (Nat.le_of_eq rfl) (by decide) (by decide) (by decide) (by decide) (pc' := 40) rfl (fun T42 h42 v42 q42 S => ?_)
      obtain ⟨rfl, e42⟩ := q42; rw [e42] at S
      show Gl p e below s _ n0 _ T42 (mkF m 40 #[.val (.int p1), .val (.int p2), .val (.int p3), .val (.int (1 : Int32)), .val (.int p2), .val (.ref w1)] [(.int (own_z p2)), (.int (own_z p2))])
      refine g_icmp_ne C S at_40 (pc' := 47) (pf := 43) (by decide) (by decide) rfl (fun hc40 => absurd rfl hc40) (fun hc40 => ?_)
      refine g_iconst C S (1 : Int32) at_43 (pc' := 44) rfl rfl ?_
      refine g_goto C S at_44 (pc' := 48) (by decide) (by decide) ?_
      exact g_retZ C S at_48 (by decide) (by decide) (by decide) (rfl)
    · refine g_iconst C S (0 : Int32) at_14 (pc' := 15) rfl rfl ?_
      refine g_goto C S at_15 (pc' := 19) (by decide) (by decide) ?_
      refine g_istore C S at_19 (pc' := 21) rfl (L' := #[.val (.int p1), .val (.int p2), .val (.int p3), .val (.int (1 : Int32)), .val (.int (0 : Int32)), .unset]) rfl ?_
      refine g_iloadN C S at_21 (pc' := 22) rfl rfl ?_
      refine g_callS C S (rm := ({ frames := 0, cells := 0, slots := 0, locals := 0 } : Room)) (W := 0) at_22 (hw _ (List.mem_of_getElem? (i := 1) rfl)) (hw _ (List.mem_of_getElem? (i := 2) rfl)) (hw _ (List.mem_of_getElem? (i := 3) rfl)) (hw _ (List.mem_of_getElem? (i := 4) rfl)) (by decide) (c_pick1 l Z a0 hw h0 n0 w1 S_STRING) (argsL := [(.int (1 : Int32))]) (r := []) rfl (lenOf pd_0 rfl) rfl (Nat.le_of_eq rfl) (by decide) (by decide) (by decide) (by decide) (pc' := 25) rfl (fun T43 h43 v43 q43 S => ?_)
      obtain ⟨rfl, e43⟩ := q43; rw [e43] at S
      show Gl p e below s _ n0 _ T43 (mkF m 25 #[.val (.int p1), .val (.int p2), .val (.int p3), .val (.int (1 : Int32)), .val (.int (0 : Int32)), .unset] [(.ref w1)])
      refine g_astore C S at_25 (pc' := 27) rfl rfl (L' := #[.val (.int p1), .val (.int p2), .val (.int p3), .val (.int (1 : Int32)), .val (.int (0 : Int32)), .val (.ref w1)]) rfl ?_
      refine g_aload C S at_27 (pc' := 29) rfl rfl rfl ?_
      refine g_iload C S at_29 (pc' := 31) rfl rfl ?_
      refine g_callV C S (rm := ({ frames := 0, cells := 0, slots := 0, locals := 0 } : Room)) (W := 0) at_31 (hw _ (List.mem_of_getElem? (i := 8) rfl)) (hw _ (List.mem_of_getElem? (i := 9) rfl)) (notFace_of_selects (args := #[]) (mvT C.2.1 (hw _ (List.mem_of_getElem? (i := 11) rfl)))) (hw _ (List.mem_of_getElem? (i := 11) rfl)) (hw _ (List.mem_of_getElem? (i := 10) rfl)) (hw _ (List.mem_of_getElem? (i := 6) rfl)) (hw _ (List.mem_of_getElem? (i := 12) rfl)) (by decide) rfl X1 (c_rf1 l Z a0 hw w1 (0 : Int32) h0 n0 w7 w8 S_LAST S_POSITION S_STRING ne_1_7 ne_1_8) (argsL := [(.int (0 : Int32))]) (r := []) rfl (lenOf pd_1 rfl) rfl (Nat.le_of_eq rfl) (by decide) (by decide) (by decide) (by decide) (pc' := 34) rfl (fun T44 h44 v44 q44 S => ?_)
      obtain ⟨rfl, e44⟩ := q44; rw [e44] at S
      show Gl p e below s _ n0 _ T44 (mkF m 34 #[.val (.int p1), .val (.int p2), .val (.int p3), .val (.int (1 : Int32)), .val (.int (0 : Int32)), .val (.ref w1)] [(.int (own_z (0 : Int32)))])
      refine g_iloadN C S at_34 (pc' := 35) rfl rfl ?_
      refine g_iload C S at_35 (pc' := 37) rfl rfl ?_
      refine g_callS C S (rm := ({ frames := 0, cells := 0, slots := 0, locals := 0 } : Room)) (W := 1) at_37 (hw _ (List.mem_of_getElem? (i := 19) rfl)) (hw _ (List.mem_of_getElem? (i := 20) rfl)) (hw _ (List.mem_of_getElem? (i := 3) rfl)) (hw _ (List.mem_of_getElem? (i := 21) rfl)) (by decide) (c_exp1 l Z a0 hw (0 : Int32) h0 n0) (argsL := [(.int (1 : Int32)), (.int (0 : Int32))]) (r := [(.int (own_z (0 : Int32)))]) rfl (lenOf pd_2 rfl) rfl (Nat.le_of_eq rfl) (by decide) (by decide) (by decide) (by decide) (pc' := 40) rfl (fun T45 h45 v45 q45 S => ?_)
      obtain ⟨rfl, e45⟩ := q45; rw [e45] at S
      show Gl p e below s _ n0 _ T45 (mkF m 40 #[.val (.int p1), .val (.int p2), .val (.int p3), .val (.int (1 : Int32)), .val (.int (0 : Int32)), .val (.ref w1)] [(.int (own_z (0 : Int32))), (.int (own_z (0 : Int32)))])
      refine g_icmp_ne C S at_40 (pc' := 47) (pf := 43) (by decide) (by decide) rfl (fun hc40 => absurd rfl hc40) (fun hc40 => ?_)
      refine g_iconst C S (1 : Int32) at_43 (pc' := 44) rfl rfl ?_
      refine g_goto C S at_44 (pc' := 48) (by decide) (by decide) ?_
      exact g_retZ C S at_48 (by decide) (by decide) (by decide) (rfl)
  · refine g_iloadN C S at_8 (pc' := 9) rfl rfl ?_
    refine g_iconst C S (1 : Int32) at_9 (pc' := 10) rfl rfl ?_
    refine g_iand C S at_10 (pc' := 11) rfl ?_
    refine g_if_eq C S at_11 (pc' := 18) (pf := 14) (by decide) (by decide) rfl (fun hc11 => ?_) (fun hc11 => ?_)
    · refine g_iloadN C S at_18 (pc' := 19) rfl rfl ?_
      refine g_istore C S at_19 (pc' := 21) rfl (L' := #[.val (.int p1), .val (.int p2), .val (.int p3), .val (.int (2 : Int32)), .val (.int p2), .unset]) rfl ?_
      refine g_iloadN C S at_21 (pc' := 22) rfl rfl ?_
      refine g_callS C S (rm := ({ frames := 0, cells := 0, slots := 0, locals := 0 } : Room)) (W := 0) at_22 (hw _ (List.mem_of_getElem? (i := 1) rfl)) (hw _ (List.mem_of_getElem? (i := 2) rfl)) (hw _ (List.mem_of_getElem? (i := 3) rfl)) (hw _ (List.mem_of_getElem? (i := 4) rfl)) (by decide) (c_pick2 l Z a0 hw h0 n0 w2 S_NOT) (argsL := [(.int (2 : Int32))]) (r := []) rfl (lenOf pd_0 rfl) rfl (Nat.le_of_eq rfl) (by decide) (by decide) (by decide) (by decide) (pc' := 25) rfl (fun T46 h46 v46 q46 S => ?_)
      obtain ⟨rfl, e46⟩ := q46; rw [e46] at S
      show Gl p e below s _ n0 _ T46 (mkF m 25 #[.val (.int p1), .val (.int p2), .val (.int p3), .val (.int (2 : Int32)), .val (.int p2), .unset] [(.ref w2)])
      refine g_astore C S at_25 (pc' := 27) rfl rfl (L' := #[.val (.int p1), .val (.int p2), .val (.int p3), .val (.int (2 : Int32)), .val (.int p2), .val (.ref w2)]) rfl ?_
      refine g_aload C S at_27 (pc' := 29) rfl rfl rfl ?_
      refine g_iload C S at_29 (pc' := 31) rfl rfl ?_
      refine g_callV C S (rm := ({ frames := 0, cells := 0, slots := 0, locals := 0 } : Room)) (W := 0) at_31 (hw _ (List.mem_of_getElem? (i := 8) rfl)) (hw _ (List.mem_of_getElem? (i := 9) rfl)) (notFace_of_selects (args := #[]) (mvT C.2.1 (hw _ (List.mem_of_getElem? (i := 11) rfl)))) (hw _ (List.mem_of_getElem? (i := 11) rfl)) (hw _ (List.mem_of_getElem? (i := 10) rfl)) (hw _ (List.mem_of_getElem? (i := 6) rfl)) (hw _ (List.mem_of_getElem? (i := 12) rfl)) (by decide) rfl X2 (c_rf2 l Z a0 hw w2 p2 h0 n0 w1 w7 w8 S_LAST S_POSITION S_STRING ne_2_1 ne_2_7 ne_2_8) (argsL := [(.int p2)]) (r := []) rfl (lenOf pd_1 rfl) rfl (Nat.le_of_eq rfl) (by decide) (by decide) (by decide) (by decide) (pc' := 34) rfl (fun T47 h47 v47 q47 S => ?_)
      obtain ⟨rfl, e47⟩ := q47; rw [e47] at S
      show Gl p e below s _ n0 _ T47 (mkF m 34 #[.val (.int p1), .val (.int p2), .val (.int p3), .val (.int (2 : Int32)), .val (.int p2), .val (.ref w2)] [(.int 0)])
      refine g_iloadN C S at_34 (pc' := 35) rfl rfl ?_
      refine g_iload C S at_35 (pc' := 37) rfl rfl ?_
      refine g_callS C S (rm := ({ frames := 0, cells := 0, slots := 0, locals := 0 } : Room)) (W := 1) at_37 (hw _ (List.mem_of_getElem? (i := 19) rfl)) (hw _ (List.mem_of_getElem? (i := 20) rfl)) (hw _ (List.mem_of_getElem? (i := 3) rfl)) (hw _ (List.mem_of_getElem? (i := 21) rfl)) (by decide) (c_exp2 l Z a0 hw p2 h0 n0) (argsL := [(.int (2 : Int32)), (.int p2)]) (r := [(.int 0)]) rfl (lenOf pd_2 rfl) rfl (Nat.le_of_eq rfl) (by decide) (by decide) (by decide) (by decide) (pc' := 40) rfl (fun T48 h48 v48 q48 S => ?_)
      obtain ⟨rfl, e48⟩ := q48; rw [e48] at S
      show Gl p e below s _ n0 _ T48 (mkF m 40 #[.val (.int p1), .val (.int p2), .val (.int p3), .val (.int (2 : Int32)), .val (.int p2), .val (.ref w2)] [(.int 0), (.int 0)])
      refine g_icmp_ne C S at_40 (pc' := 47) (pf := 43) (by decide) (by decide) rfl (fun hc40 => absurd rfl hc40) (fun hc40 => ?_)
      refine g_iconst C S (1 : Int32) at_43 (pc' := 44) rfl rfl ?_
      refine g_goto C S at_44 (pc' := 48) (by decide) (by decide) ?_
      exact g_retZ C S at_48 (by decide) (by decide) (by decide) (rfl)
    · refine g_iconst C S (0 : Int32) at_14 (pc' := 15) rfl rfl ?_
      refine g_goto C S at_15 (pc' := 19) (by decide) (by decide) ?_
      refine g_istore C S at_19 (pc' := 21) rfl (L' := #[.val (.int p1), .val (.int p2), .val (.int p3), .val (.int (2 : Int32)), .val (.int (0 : Int32)), .unset]) rfl ?_
      refine g_iloadN C S at_21 (pc' := 22) rfl rfl ?_
      refine g_callS C S (rm := ({ frames := 0, cells := 0, slots := 0, locals := 0 } : Room)) (W := 0) at_22 (hw _ (List.mem_of_getElem? (i := 1) rfl)) (hw _ (List.mem_of_getElem? (i := 2) rfl)) (hw _ (List.mem_of_getElem? (i := 3) rfl)) (hw _ (List.mem_of_getElem? (i := 4) rfl)) (by decide) (c_pick2 l Z a0 hw h0 n0 w2 S_NOT) (argsL := [(.int (2 : Int32))]) (r := []) rfl (lenOf pd_0 rfl) rfl (Nat.le_of_eq rfl) (by decide) (by decide) (by decide) (by decide) (pc' := 25) rfl (fun T49 h49 v49 q49 S => ?_)
      obtain ⟨rfl, e49⟩ := q49; rw [e49] at S
      show Gl p e below s _ n0 _ T49 (mkF m 25 #[.val (.int p1), .val (.int p2), .val (.int p3), .val (.int (2 : Int32)), .val (.int (0 : Int32)), .unset] [(.ref w2)])
      refine g_astore C S at_25 (pc' := 27) rfl rfl (L' := #[.val (.int p1), .val (.int p2), .val (.int p3), .val (.int (2 : Int32)), .val (.int (0 : Int32)), .val (.ref w2)]) rfl ?_
      refine g_aload C S at_27 (pc' := 29) rfl rfl rfl ?_
      refine g_iload C S at_29 (pc' := 31) rfl rfl ?_
      refine g_callV C S (rm := ({ frames := 0, cells := 0, slots := 0, locals := 0 } : Room)) (W := 0) at_31 (hw _ (List.mem_of_getElem? (i := 8) rfl)) (hw _ (List.mem_of_getElem? (i := 9) rfl)) (notFace_of_selects (args := #[]) (mvT C.2.1 (hw _ (List.mem_of_getElem? (i := 11) rfl)))) (hw _ (List.mem_of_getElem? (i := 11) rfl)) (hw _ (List.mem_of_getElem? (i := 10) rfl)) (hw _ (List.mem_of_getElem? (i := 6) rfl)) (hw _ (List.mem_of_getElem? (i := 12) rfl)) (by decide) rfl X2 (c_rf2 l Z a0 hw w2 (0 : Int32) h0 n0 w1 w7 w8 S_LAST S_POSITION S_STRING ne_2_1 ne_2_7 ne_2_8) (argsL := [(.int (0 : Int32))]) (r := []) rfl (lenOf pd_1 rfl) rfl (Nat.le_of_eq rfl) (by decide) (by decide) (by decide) (by decide) (pc' := 34) rfl (fun T50 h50 v50 q50 S => ?_)
      obtain ⟨rfl, e50⟩ := q50; rw [e50] at S
      show Gl p e below s _ n0 _ T50 (mkF m 34 #[.val (.int p1), .val (.int p2), .val (.int p3), .val (.int (2 : Int32)), .val (.int (0 : Int32)), .val (.ref w2)] [(.int 0)])
      refine g_iloadN C S at_34 (pc' := 35) rfl rfl ?_
      refine g_iload C S at_35 (pc' := 37) rfl rfl ?_
      refine g_callS C S (rm := ({ frames := 0, cells := 0, slots := 0, locals := 0 } : Room)) (W := 1) at_37 (hw _ (List.mem_of_getElem? (i := 19) rfl)) (hw _ (List.mem_of_getElem? (i := 20) rfl)) (hw _ (List.mem_of_getElem? (i := 3) rfl)) (hw _ (List.mem_of_getElem? (i := 21) rfl)) (by decide) (c_exp2 l Z a0 hw (0 : Int32) h0 n0) (argsL := [(.int (2 : Int32)), (.int (0 : Int32))]) (r := [(.int 0)]) rfl (lenOf pd_2 rfl) rfl (Nat.le_of_eq rfl) (by decide) (by decide) (by decide) (by decide) (pc' := 40) rfl (fun T51 h51 v51 q51 S => ?_)
      obtain ⟨rfl, e51⟩ := q51; rw [e51] at S
      show Gl p e below s _ n0 _ T51 (mkF m 40 #[.val (.int p1), .val (.int p2), .val (.int p3), .val (.int (2 : Int32)), .val (.int (0 : Int32)), .val (.ref w2)] [(.int 0), (.int 0)])
      refine g_icmp_ne C S at_40 (pc' := 47) (pf := 43) (by decide) (by decide) rfl (fun hc40 => absurd rfl hc40) (fun hc40 => ?_)
      refine g_iconst C S (1 : Int32) at_43 (pc' := 44) rfl rfl ?_
      refine g_goto C S at_44 (pc' := 48) (by decide) (by decide) ?_
      exact g_retZ C S at_48 (by decide) (by decide) (by decide) (rfl)
  · refine g_iloadN C S at_8 (pc' := 9) rfl rfl ?_
    refine g_iconst C S (1 : Int32) at_9 (pc' := 10) rfl rfl ?_
    refine g_iand C S at_10 (pc' := 11) rfl ?_
    refine g_if_eq C S at_11 (pc' := 18) (pf := 14) (by decide) (by decide) rfl (fun hc11 => ?_) (fun hc11 => ?_)
    · refine g_iloadN C S at_18 (pc' := 19) rfl rfl ?_
      refine g_istore C S at_19 (pc' := 21) rfl (L' := #[.val (.int p1), .val (.int p2), .val (.int p3), .val (.int (3 : Int32)), .val (.int p2), .unset]) rfl ?_
      refine g_iloadN C S at_21 (pc' := 22) rfl rfl ?_
      refine g_callS C S (rm := ({ frames := 0, cells := 0, slots := 0, locals := 0 } : Room)) (W := 0) at_22 (hw _ (List.mem_of_getElem? (i := 1) rfl)) (hw _ (List.mem_of_getElem? (i := 2) rfl)) (hw _ (List.mem_of_getElem? (i := 3) rfl)) (hw _ (List.mem_of_getElem? (i := 4) rfl)) (by decide) (c_pick3 l Z a0 hw h0 n0 w3 S_TRUE) (argsL := [(.int (3 : Int32))]) (r := []) rfl (lenOf pd_0 rfl) rfl (Nat.le_of_eq rfl) (by decide) (by decide) (by decide) (by decide) (pc' := 25) rfl (fun T52 h52 v52 q52 S => ?_)
      obtain ⟨rfl, e52⟩ := q52; rw [e52] at S
      show Gl p e below s _ n0 _ T52 (mkF m 25 #[.val (.int p1), .val (.int p2), .val (.int p3), .val (.int (3 : Int32)), .val (.int p2), .unset] [(.ref w3)])
      refine g_astore C S at_25 (pc' := 27) rfl rfl (L' := #[.val (.int p1), .val (.int p2), .val (.int p3), .val (.int (3 : Int32)), .val (.int p2), .val (.ref w3)]) rfl ?_
      refine g_aload C S at_27 (pc' := 29) rfl rfl rfl ?_
      refine g_iload C S at_29 (pc' := 31) rfl rfl ?_
      refine g_callV C S (rm := ({ frames := 0, cells := 0, slots := 0, locals := 0 } : Room)) (W := 0) at_31 (hw _ (List.mem_of_getElem? (i := 8) rfl)) (hw _ (List.mem_of_getElem? (i := 9) rfl)) (notFace_of_selects (args := #[]) (mvT C.2.1 (hw _ (List.mem_of_getElem? (i := 11) rfl)))) (hw _ (List.mem_of_getElem? (i := 11) rfl)) (hw _ (List.mem_of_getElem? (i := 10) rfl)) (hw _ (List.mem_of_getElem? (i := 6) rfl)) (hw _ (List.mem_of_getElem? (i := 12) rfl)) (by decide) rfl X3 (c_rf3 l Z a0 hw w3 p2 h0 n0 w1 w7 w8 S_LAST S_POSITION S_STRING ne_3_1 ne_3_7 ne_3_8) (argsL := [(.int p2)]) (r := []) rfl (lenOf pd_1 rfl) rfl (Nat.le_of_eq rfl) (by decide) (by decide) (by decide) (by decide) (pc' := 34) rfl (fun T53 h53 v53 q53 S => ?_)
      obtain ⟨rfl, e53⟩ := q53; rw [e53] at S
      show Gl p e below s _ n0 _ T53 (mkF m 34 #[.val (.int p1), .val (.int p2), .val (.int p3), .val (.int (3 : Int32)), .val (.int p2), .val (.ref w3)] [(.int 0)])
      refine g_iloadN C S at_34 (pc' := 35) rfl rfl ?_
      refine g_iload C S at_35 (pc' := 37) rfl rfl ?_
      refine g_callS C S (rm := ({ frames := 0, cells := 0, slots := 0, locals := 0 } : Room)) (W := 1) at_37 (hw _ (List.mem_of_getElem? (i := 19) rfl)) (hw _ (List.mem_of_getElem? (i := 20) rfl)) (hw _ (List.mem_of_getElem? (i := 3) rfl)) (hw _ (List.mem_of_getElem? (i := 21) rfl)) (by decide) (c_exp3 l Z a0 hw p2 h0 n0) (argsL := [(.int (3 : Int32)), (.int p2)]) (r := [(.int 0)]) rfl (lenOf pd_2 rfl) rfl (Nat.le_of_eq rfl) (by decide) (by decide) (by decide) (by decide) (pc' := 40) rfl (fun T54 h54 v54 q54 S => ?_)
      obtain ⟨rfl, e54⟩ := q54; rw [e54] at S
      show Gl p e below s _ n0 _ T54 (mkF m 40 #[.val (.int p1), .val (.int p2), .val (.int p3), .val (.int (3 : Int32)), .val (.int p2), .val (.ref w3)] [(.int 0), (.int 0)])
      refine g_icmp_ne C S at_40 (pc' := 47) (pf := 43) (by decide) (by decide) rfl (fun hc40 => absurd rfl hc40) (fun hc40 => ?_)
      refine g_iconst C S (1 : Int32) at_43 (pc' := 44) rfl rfl ?_
      refine g_goto C S at_44 (pc' := 48) (by decide) (by decide) ?_
      exact g_retZ C S at_48 (by decide) (by decide) (by decide) (rfl)
    · refine g_iconst C S (0 : Int32) at_14 (pc' := 15) rfl rfl ?_
      refine g_goto C S at_15 (pc' := 19) (by decide) (by decide) ?_
      refine g_istore C S at_19 (pc' := 21) rfl (L' := #[.val (.int p1), .val (.int p2), .val (.int p3), .val (.int (3 : Int32)), .val (.int (0 : Int32)), .unset]) rfl ?_
      refine g_iloadN C S at_21 (pc' := 22) rfl rfl ?_
      refine g_callS C S (rm := ({ frames := 0, cells := 0, slots := 0, locals := 0 } : Room)) (W := 0) at_22 (hw _ (List.mem_of_getElem? (i := 1) rfl)) (hw _ (List.mem_of_getElem? (i := 2) rfl)) (hw _ (List.mem_of_getElem? (i := 3) rfl)) (hw _ (List.mem_of_getElem? (i := 4) rfl)) (by decide) (c_pick3 l Z a0 hw h0 n0 w3 S_TRUE) (argsL := [(.int (3 : Int32))]) (r := []) rfl (lenOf pd_0 rfl) rfl (Nat.le_of_eq rfl) (by decide) (by decide) (by decide) (by decide) (pc' := 25) rfl (fun T55 h55 v55 q55 S => ?_)
      obtain ⟨rfl, e55⟩ := q55; rw [e55] at S
      show Gl p e below s _ n0 _ T55 (mkF m 25 #[.val (.int p1), .val (.int p2), .val (.int p3), .val (.int (3 : Int32)), .val (.int (0 : Int32)), .unset] [(.ref w3)])
      refine g_astore C S at_25 (pc' := 27) rfl rfl (L' := #[.val (.int p1), .val (.int p2), .val (.int p3), .val (.int (3 : Int32)), .val (.int (0 : Int32)), .val (.ref w3)]) rfl ?_
      refine g_aload C S at_27 (pc' := 29) rfl rfl rfl ?_
      refine g_iload C S at_29 (pc' := 31) rfl rfl ?_
      refine g_callV C S (rm := ({ frames := 0, cells := 0, slots := 0, locals := 0 } : Room)) (W := 0) at_31 (hw _ (List.mem_of_getElem? (i := 8) rfl)) (hw _ (List.mem_of_getElem? (i := 9) rfl)) (notFace_of_selects (args := #[]) (mvT C.2.1 (hw _ (List.mem_of_getElem? (i := 11) rfl)))) (hw _ (List.mem_of_getElem? (i := 11) rfl)) (hw _ (List.mem_of_getElem? (i := 10) rfl)) (hw _ (List.mem_of_getElem? (i := 6) rfl)) (hw _ (List.mem_of_getElem? (i := 12) rfl)) (by decide) rfl X3 (c_rf3 l Z a0 hw w3 (0 : Int32) h0 n0 w1 w7 w8 S_LAST S_POSITION S_STRING ne_3_1 ne_3_7 ne_3_8) (argsL := [(.int (0 : Int32))]) (r := []) rfl (lenOf pd_1 rfl) rfl (Nat.le_of_eq rfl) (by decide) (by decide) (by decide) (by decide) (pc' := 34) rfl (fun T56 h56 v56 q56 S => ?_)
      obtain ⟨rfl, e56⟩ := q56; rw [e56] at S
      show Gl p e below s _ n0 _ T56 (mkF m 34 #[.val (.int p1), .val (.int p2), .val (.int p3), .val (.int (3 : Int32)), .val (.int (0 : Int32)), .val (.ref w3)] [(.int 0)])
      refine g_iloadN C S at_34 (pc' := 35) rfl rfl ?_
      refine g_iload C S at_35 (pc' := 37) rfl rfl ?_
      refine g_callS C S (rm := ({ frames := 0, cells := 0, slots := 0, locals := 0 } : Room)) (W := 1) at_37 (hw _ (List.mem_of_getElem? (i := 19) rfl)) (hw _ (List.mem_of_getElem? (i := 20) rfl)) (hw _ (List.mem_of_getElem? (i := 3) rfl)) (hw _ (List.mem_of_getElem? (i := 21) rfl)) (by decide) (c_exp3 l Z a0 hw (0 : Int32) h0 n0) (argsL := [(.int (3 : Int32)), (.int (0 : Int32))]) (r := [(.int 0)]) rfl (lenOf pd_2 rfl) rfl (Nat.le_of_eq rfl) (by decide) (by decide) (by decide) (by decide) (pc' := 40) rfl (fun T57 h57 v57 q57 S => ?_)
      obtain ⟨rfl, e57⟩ := q57; rw [e57] at S
      show Gl p e below s _ n0 _ T57 (mkF m 40 #[.val (.int p1), .val (.int p2), .val (.int p3), .val (.int (3 : Int32)), .val (.int (0 : Int32)), .val (.ref w3)] [(.int 0), (.int 0)])
      refine g_icmp_ne C S at_40 (pc' := 47) (pf := 43) (by decide) (by decide) rfl (fun hc40 => absurd rfl hc40) (fun hc40 => ?_)
      refine g_iconst C S (1 : Int32) at_43 (pc' := 44) rfl rfl ?_
      refine g_goto C S at_44 (pc' := 48) (by decide) (by decide) ?_
      exact g_retZ C S at_48 (by decide) (by decide) (by decide) (rfl)
  · refine g_iloadN C S at_8 (pc' := 9) rfl rfl ?_
    refine g_iconst C S (1 : Int32) at_9 (pc' := 10) rfl rfl ?_
    refine g_iand C S at_10 (pc' := 11) rfl ?_
    refine g_if_eq C S at_11 (pc' := 18) (pf := 14) (by decide) (by decide) rfl (fun hc11 => ?_) (fun hc11 => ?_)
    · refine g_iloadN C S at_18 (pc' := 19) rfl rfl ?_
      refine g_istore C S at_19 (pc' := 21) rfl (L' := #[.val (.int p1), .val (.int p2), .val (.int p3), .val (.int (4 : Int32)), .val (.int p2), .unset]) rfl ?_
      refine g_iloadN C S at_21 (pc' := 22) rfl rfl ?_
      refine g_callS C S (rm := ({ frames := 0, cells := 0, slots := 0, locals := 0 } : Room)) (W := 0) at_22 (hw _ (List.mem_of_getElem? (i := 1) rfl)) (hw _ (List.mem_of_getElem? (i := 2) rfl)) (hw _ (List.mem_of_getElem? (i := 3) rfl)) (hw _ (List.mem_of_getElem? (i := 4) rfl)) (by decide) (c_pick4 l Z a0 hw h0 n0 w4 S_FALSE) (argsL := [(.int (4 : Int32))]) (r := []) rfl (lenOf pd_0 rfl) rfl (Nat.le_of_eq rfl) (by decide) (by decide) (by decide) (by decide) (pc' := 25) rfl (fun T58 h58 v58 q58 S => ?_)
      obtain ⟨rfl, e58⟩ := q58; rw [e58] at S
      show Gl p e below s _ n0 _ T58 (mkF m 25 #[.val (.int p1), .val (.int p2), .val (.int p3), .val (.int (4 : Int32)), .val (.int p2), .unset] [(.ref w4)])
      refine g_astore C S at_25 (pc' := 27) rfl rfl (L' := #[.val (.int p1), .val (.int p2), .val (.int p3), .val (.int (4 : Int32)), .val (.int p2), .val (.ref w4)]) rfl ?_
      refine g_aload C S at_27 (pc' := 29) rfl rfl rfl ?_
      refine g_iload C S at_29 (pc' := 31) rfl rfl ?_
      refine g_callV C S (rm := ({ frames := 0, cells := 0, slots := 0, locals := 0 } : Room)) (W := 0) at_31 (hw _ (List.mem_of_getElem? (i := 8) rfl)) (hw _ (List.mem_of_getElem? (i := 9) rfl)) (notFace_of_selects (args := #[]) (mvT C.2.1 (hw _ (List.mem_of_getElem? (i := 11) rfl)))) (hw _ (List.mem_of_getElem? (i := 11) rfl)) (hw _ (List.mem_of_getElem? (i := 10) rfl)) (hw _ (List.mem_of_getElem? (i := 6) rfl)) (hw _ (List.mem_of_getElem? (i := 12) rfl)) (by decide) rfl X4 (c_rf4 l Z a0 hw w4 p2 h0 n0 w1 w7 w8 S_LAST S_POSITION S_STRING ne_4_1 ne_4_7 ne_4_8) (argsL := [(.int p2)]) (r := []) rfl (lenOf pd_1 rfl) rfl (Nat.le_of_eq rfl) (by decide) (by decide) (by decide) (by decide) (pc' := 34) rfl (fun T59 h59 v59 q59 S => ?_)
      obtain ⟨rfl, e59⟩ := q59; rw [e59] at S
      show Gl p e below s _ n0 _ T59 (mkF m 34 #[.val (.int p1), .val (.int p2), .val (.int p3), .val (.int (4 : Int32)), .val (.int p2), .val (.ref w4)] [(.int 0)])
      refine g_iloadN C S at_34 (pc' := 35) rfl rfl ?_
      refine g_iload C S at_35 (pc' := 37) rfl rfl ?_
      refine g_callS C S (rm := ({ frames := 0, cells := 0, slots := 0, locals := 0 } : Room)) (W := 1) at_37 (hw _ (List.mem_of_getElem? (i := 19) rfl)) (hw _ (List.mem_of_getElem? (i := 20) rfl)) (hw _ (List.mem_of_getElem? (i := 3) rfl)) (hw _ (List.mem_of_getElem? (i := 21) rfl)) (by decide) (c_exp4 l Z a0 hw p2 h0 n0) (argsL := [(.int (4 : Int32)), (.int p2)]) (r := [(.int 0)]) rfl (lenOf pd_2 rfl) rfl (Nat.le_of_eq rfl) (by decide) (by decide) (by decide) (by decide) (pc' := 40) rfl (fun T60 h60 v60 q60 S => ?_)
      obtain ⟨rfl, e60⟩ := q60; rw [e60] at S
      show Gl p e below s _ n0 _ T60 (mkF m 40 #[.val (.int p1), .val (.int p2), .val (.int p3), .val (.int (4 : Int32)), .val (.int p2), .val (.ref w4)] [(.int 0), (.int 0)])
      refine g_icmp_ne C S at_40 (pc' := 47) (pf := 43) (by decide) (by decide) rfl (fun hc40 => absurd rfl hc40) (fun hc40 => ?_)
      refine g_iconst C S (1 : Int32) at_43 (pc' := 44) rfl rfl ?_
      refine g_goto C S at_44 (pc' := 48) (by decide) (by decide) ?_
      exact g_retZ C S at_48 (by decide) (by decide) (by decide) (rfl)
    · refine g_iconst C S (0 : Int32) at_14 (pc' := 15) rfl rfl ?_
      refine g_goto C S at_15 (pc' := 19) (by decide) (by decide) ?_
      refine g_istore C S at_19 (pc' := 21) rfl (L' := #[.val (.int p1), .val (.int p2), .val (.int p3), .val (.int (4 : Int32)), .val (.int (0 : Int32)), .unset]) rfl ?_
      refine g_iloadN C S at_21 (pc' := 22) rfl rfl ?_
      refine g_callS C S (rm := ({ frames := 0, cells := 0, slots := 0, locals := 0 } : Room)) (W := 0) at_22 (hw _ (List.mem_of_getElem? (i := 1) rfl)) (hw _ (List.mem_of_getElem? (i := 2) rfl)) (hw _ (List.mem_of_getElem? (i := 3) rfl)) (hw _ (List.mem_of_getElem? (i := 4) rfl)) (by decide) (c_pick4 l Z a0 hw h0 n0 w4 S_FALSE) (argsL := [(.int (4 : Int32))]) (r := []) rfl (lenOf pd_0 rfl) rfl (Nat.le_of_eq rfl) (by decide) (by decide) (by decide) (by decide) (pc' := 25) rfl (fun T61 h61 v61 q61 S => ?_)
      obtain ⟨rfl, e61⟩ := q61; rw [e61] at S
      show Gl p e below s _ n0 _ T61 (mkF m 25 #[.val (.int p1), .val (.int p2), .val (.int p3), .val (.int (4 : Int32)), .val (.int (0 : Int32)), .unset] [(.ref w4)])
      refine g_astore C S at_25 (pc' := 27) rfl rfl (L' := #[.val (.int p1), .val (.int p2), .val (.int p3), .val (.int (4 : Int32)), .val (.int (0 : Int32)), .val (.ref w4)]) rfl ?_
      refine g_aload C S at_27 (pc' := 29) rfl rfl rfl ?_
      refine g_iload C S at_29 (pc' := 31) rfl rfl ?_
      refine g_callV C S (rm := ({ frames := 0, cells := 0, slots := 0, locals := 0 } : Room)) (W := 0) at_31 (hw _ (List.mem_of_getElem? (i := 8) rfl)) (hw _ (List.mem_of_getElem? (i := 9) rfl)) (notFace_of_selects (args := #[]) (mvT C.2.1 (hw _ (List.mem_of_getElem? (i := 11) rfl)))) (hw _ (List.mem_of_getElem? (i := 11) rfl)) (hw _ (List.mem_of_getElem? (i := 10) rfl)) (hw _ (List.mem_of_getElem? (i := 6) rfl)) (hw _ (List.mem_of_getElem? (i := 12) rfl)) (by decide) rfl X4 (c_rf4 l Z a0 hw w4 (0 : Int32) h0 n0 w1 w7 w8 S_LAST S_POSITION S_STRING ne_4_1 ne_4_7 ne_4_8) (argsL := [(.int (0 : Int32))]) (r := []) rfl (lenOf pd_1 rfl) rfl (Nat.le_of_eq rfl) (by decide) (by decide) (by decide) (by decide) (pc' := 34) rfl (fun T62 h62 v62 q62 S => ?_)
      obtain ⟨rfl, e62⟩ := q62; rw [e62] at S
      show Gl p e below s _ n0 _ T62 (mkF m 34 #[.val (.int p1), .val (.int p2), .val (.int p3), .val (.int (4 : Int32)), .val (.int (0 : Int32)), .val (.ref w4)] [(.int 0)])
      refine g_iloadN C S at_34 (pc' := 35) rfl rfl ?_
      refine g_iload C S at_35 (pc' := 37) rfl rfl ?_
      refine g_callS C S (rm := ({ frames := 0, cells := 0, slots := 0, locals := 0 } : Room)) (W := 1) at_37 (hw _ (List.mem_of_getElem? (i := 19) rfl)) (hw _ (List.mem_of_getElem? (i := 20) rfl)) (hw _ (List.mem_of_getElem? (i := 3) rfl)) (hw _ (List.mem_of_getElem? (i := 21) rfl)) (by decide) (c_exp4 l Z a0 hw (0 : Int32) h0 n0) (argsL := [(.int (4 : Int32)), (.int (0 : Int32))]) (r := [(.int 0)]) rfl (lenOf pd_2 rfl) rfl (Nat.le_of_eq rfl) (by decide) (by decide) (by decide) (by decide) (pc' := 40) rfl (fun T63 h63 v63 q63 S => ?_)
      obtain ⟨rfl, e63⟩ := q63; rw [e63] at S
      show Gl p e below s _ n0 _ T63 (mkF m 40 #[.val (.int p1), .val (.int p2), .val (.int p3), .val (.int (4 : Int32)), .val (.int (0 : Int32)), .val (.ref w4)] [(.int 0), (.int 0)])
      refine g_icmp_ne C S at_40 (pc' := 47) (pf := 43) (by decide) (by decide) rfl (fun hc40 => absurd rfl hc40) (fun hc40 => ?_)
      refine g_iconst C S (1 : Int32) at_43 (pc' := 44) rfl rfl ?_
      refine g_goto C S at_44 (pc' := 48) (by decide) (by decide) ?_
      exact g_retZ C S at_48 (by decide) (by decide) (by decide) (rfl)
  · refine g_iloadN C S at_8 (pc' := 9) rfl rfl ?_
    refine g_iconst C S (1 : Int32) at_9 (pc' := 10) rfl rfl ?_
    refine g_iand C S at_10 (pc' := 11) rfl ?_
    refine g_if_eq C S at_11 (pc' := 18) (pf := 14) (by decide) (by decide) rfl (fun hc11 => ?_) (fun hc11 => ?_)
    · refine g_iloadN C S at_18 (pc' := 19) rfl rfl ?_
      refine g_istore C S at_19 (pc' := 21) rfl (L' := #[.val (.int p1), .val (.int p2), .val (.int p3), .val (.int (5 : Int32)), .val (.int p2), .unset]) rfl ?_
      refine g_iloadN C S at_21 (pc' := 22) rfl rfl ?_
      refine g_callS C S (rm := ({ frames := 0, cells := 0, slots := 0, locals := 0 } : Room)) (W := 0) at_22 (hw _ (List.mem_of_getElem? (i := 1) rfl)) (hw _ (List.mem_of_getElem? (i := 2) rfl)) (hw _ (List.mem_of_getElem? (i := 3) rfl)) (hw _ (List.mem_of_getElem? (i := 4) rfl)) (by decide) (c_pick5 l Z a0 hw h0 n0 w5 S_MIN) (argsL := [(.int (5 : Int32))]) (r := []) rfl (lenOf pd_0 rfl) rfl (Nat.le_of_eq rfl) (by decide) (by decide) (by decide) (by decide) (pc' := 25) rfl (fun T64 h64 v64 q64 S => ?_)
      obtain ⟨rfl, e64⟩ := q64; rw [e64] at S
      show Gl p e below s _ n0 _ T64 (mkF m 25 #[.val (.int p1), .val (.int p2), .val (.int p3), .val (.int (5 : Int32)), .val (.int p2), .unset] [(.ref w5)])
      refine g_astore C S at_25 (pc' := 27) rfl rfl (L' := #[.val (.int p1), .val (.int p2), .val (.int p3), .val (.int (5 : Int32)), .val (.int p2), .val (.ref w5)]) rfl ?_
      refine g_aload C S at_27 (pc' := 29) rfl rfl rfl ?_
      refine g_iload C S at_29 (pc' := 31) rfl rfl ?_
      refine g_callV C S (rm := ({ frames := 0, cells := 0, slots := 0, locals := 0 } : Room)) (W := 0) at_31 (hw _ (List.mem_of_getElem? (i := 8) rfl)) (hw _ (List.mem_of_getElem? (i := 9) rfl)) (notFace_of_selects (args := #[]) (mvT C.2.1 (hw _ (List.mem_of_getElem? (i := 11) rfl)))) (hw _ (List.mem_of_getElem? (i := 11) rfl)) (hw _ (List.mem_of_getElem? (i := 10) rfl)) (hw _ (List.mem_of_getElem? (i := 6) rfl)) (hw _ (List.mem_of_getElem? (i := 12) rfl)) (by decide) rfl X5 (c_rf5 l Z a0 hw w5 p2 h0 n0 w1 w7 w8 S_LAST S_POSITION S_STRING ne_5_1 ne_5_7 ne_5_8) (argsL := [(.int p2)]) (r := []) rfl (lenOf pd_1 rfl) rfl (Nat.le_of_eq rfl) (by decide) (by decide) (by decide) (by decide) (pc' := 34) rfl (fun T65 h65 v65 q65 S => ?_)
      obtain ⟨rfl, e65⟩ := q65; rw [e65] at S
      show Gl p e below s _ n0 _ T65 (mkF m 34 #[.val (.int p1), .val (.int p2), .val (.int p3), .val (.int (5 : Int32)), .val (.int p2), .val (.ref w5)] [(.int 0)])
      refine g_iloadN C S at_34 (pc' := 35) rfl rfl ?_
      refine g_iload C S at_35 (pc' := 37) rfl rfl ?_
      refine g_callS C S (rm := ({ frames := 0, cells := 0, slots := 0, locals := 0 } : Room)) (W := 1) at_37 (hw _ (List.mem_of_getElem? (i := 19) rfl)) (hw _ (List.mem_of_getElem? (i := 20) rfl)) (hw _ (List.mem_of_getElem? (i := 3) rfl)) (hw _ (List.mem_of_getElem? (i := 21) rfl)) (by decide) (c_exp5 l Z a0 hw p2 h0 n0) (argsL := [(.int (5 : Int32)), (.int p2)]) (r := [(.int 0)]) rfl (lenOf pd_2 rfl) rfl (Nat.le_of_eq rfl) (by decide) (by decide) (by decide) (by decide) (pc' := 40) rfl (fun T66 h66 v66 q66 S => ?_)
      obtain ⟨rfl, e66⟩ := q66; rw [e66] at S
      show Gl p e below s _ n0 _ T66 (mkF m 40 #[.val (.int p1), .val (.int p2), .val (.int p3), .val (.int (5 : Int32)), .val (.int p2), .val (.ref w5)] [(.int 0), (.int 0)])
      refine g_icmp_ne C S at_40 (pc' := 47) (pf := 43) (by decide) (by decide) rfl (fun hc40 => absurd rfl hc40) (fun hc40 => ?_)
      refine g_iconst C S (1 : Int32) at_43 (pc' := 44) rfl rfl ?_
      refine g_goto C S at_44 (pc' := 48) (by decide) (by decide) ?_
      exact g_retZ C S at_48 (by decide) (by decide) (by decide) (rfl)
    · refine g_iconst C S (0 : Int32) at_14 (pc' := 15) rfl rfl ?_
      refine g_goto C S at_15 (pc' := 19) (by decide) (by decide) ?_
      refine g_istore C S at_19 (pc' := 21) rfl (L' := #[.val (.int p1), .val (.int p2), .val (.int p3), .val (.int (5 : Int32)), .val (.int (0 : Int32)), .unset]) rfl ?_
      refine g_iloadN C S at_21 (pc' := 22) rfl rfl ?_
      refine g_callS C S (rm := ({ frames := 0, cells := 0, slots := 0, locals := 0 } : Room)) (W := 0) at_22 (hw _ (List.mem_of_getElem? (i := 1) rfl)) (hw _ (List.mem_of_getElem? (i := 2) rfl)) (hw _ (List.mem_of_getElem? (i := 3) rfl)) (hw _ (List.mem_of_getElem? (i := 4) rfl)) (by decide) (c_pick5 l Z a0 hw h0 n0 w5 S_MIN) (argsL := [(.int (5 : Int32))]) (r := []) rfl (lenOf pd_0 rfl) rfl (Nat.le_of_eq rfl) (by decide) (by decide) (by decide) (by decide) (pc' := 25) rfl (fun T67 h67 v67 q67 S => ?_)
      obtain ⟨rfl, e67⟩ := q67; rw [e67] at S
      show Gl p e below s _ n0 _ T67 (mkF m 25 #[.val (.int p1), .val (.int p2), .val (.int p3), .val (.int (5 : Int32)), .val (.int (0 : Int32)), .unset] [(.ref w5)])
      refine g_astore C S at_25 (pc' := 27) rfl rfl (L' := #[.val (.int p1), .val (.int p2), .val (.int p3), .val (.int (5 : Int32)), .val (.int (0 : Int32)), .val (.ref w5)]) rfl ?_
      refine g_aload C S at_27 (pc' := 29) rfl rfl rfl ?_
      refine g_iload C S at_29 (pc' := 31) rfl rfl ?_
      refine g_callV C S (rm := ({ frames := 0, cells := 0, slots := 0, locals := 0 } : Room)) (W := 0) at_31 (hw _ (List.mem_of_getElem? (i := 8) rfl)) (hw _ (List.mem_of_getElem? (i := 9) rfl)) (notFace_of_selects (args := #[]) (mvT C.2.1 (hw _ (List.mem_of_getElem? (i := 11) rfl)))) (hw _ (List.mem_of_getElem? (i := 11) rfl)) (hw _ (List.mem_of_getElem? (i := 10) rfl)) (hw _ (List.mem_of_getElem? (i := 6) rfl)) (hw _ (List.mem_of_getElem? (i := 12) rfl)) (by decide) rfl X5 (c_rf5 l Z a0 hw w5 (0 : Int32) h0 n0 w1 w7 w8 S_LAST S_POSITION S_STRING ne_5_1 ne_5_7 ne_5_8) (argsL := [(.int (0 : Int32))]) (r := []) rfl (lenOf pd_1 rfl) rfl (Nat.le_of_eq rfl) (by decide) (by decide) (by decide) (by decide) (pc' := 34) rfl (fun T68 h68 v68 q68 S => ?_)
      obtain ⟨rfl, e68⟩ := q68; rw [e68] at S
      show Gl p e below s _ n0 _ T68 (mkF m 34 #[.val (.int p1), .val (.int p2), .val (.int p3), .val (.int (5 : Int32)), .val (.int (0 : Int32)), .val (.ref w5)] [(.int 0)])
      refine g_iloadN C S at_34 (pc' := 35) rfl rfl ?_
      refine g_iload C S at_35 (pc' := 37) rfl rfl ?_
      refine g_callS C S (rm := ({ frames := 0, cells := 0, slots := 0, locals := 0 } : Room)) (W := 1) at_37 (hw _ (List.mem_of_getElem? (i := 19) rfl)) (hw _ (List.mem_of_getElem? (i := 20) rfl)) (hw _ (List.mem_of_getElem? (i := 3) rfl)) (hw _ (List.mem_of_getElem? (i := 21) rfl)) (by decide) (c_exp5 l Z a0 hw (0 : Int32) h0 n0) (argsL := [(.int (5 : Int32)), (.int (0 : Int32))]) (r := [(.int 0)]) rfl (lenOf pd_2 rfl) rfl (Nat.le_of_eq rfl) (by decide) (by decide) (by decide) (by decide) (pc' := 40) rfl (fun T69 h69 v69 q69 S => ?_)
      obtain ⟨rfl, e69⟩ := q69; rw [e69] at S
      show Gl p e below s _ n0 _ T69 (mkF m 40 #[.val (.int p1), .val (.int p2), .val (.int p3), .val (.int (5 : Int32)), .val (.int (0 : Int32)), .val (.ref w5)] [(.int 0), (.int 0)])
      refine g_icmp_ne C S at_40 (pc' := 47) (pf := 43) (by decide) (by decide) rfl (fun hc40 => absurd rfl hc40) (fun hc40 => ?_)
      refine g_iconst C S (1 : Int32) at_43 (pc' := 44) rfl rfl ?_
      refine g_goto C S at_44 (pc' := 48) (by decide) (by decide) ?_
      exact g_retZ C S at_48 (by decide) (by decide) (by decide) (rfl)
  · refine g_iloadN C S at_8 (pc' := 9) rfl rfl ?_
    refine g_iconst C S (1 : Int32) at_9 (pc' := 10) rfl rfl ?_
    refine g_iand C S at_10 (pc' := 11) rfl ?_
    refine g_if_eq C S at_11 (pc' := 18) (pf := 14) (by decide) (by decide) rfl (fun hc11 => ?_) (fun hc11 => ?_)
    · refine g_iloadN C S at_18 (pc' := 19) rfl rfl ?_
      refine g_istore C S at_19 (pc' := 21) rfl (L' := #[.val (.int p1), .val (.int p2), .val (.int p3), .val (.int (6 : Int32)), .val (.int p2), .unset]) rfl ?_
      refine g_iloadN C S at_21 (pc' := 22) rfl rfl ?_
      refine g_callS C S (rm := ({ frames := 0, cells := 0, slots := 0, locals := 0 } : Room)) (W := 0) at_22 (hw _ (List.mem_of_getElem? (i := 1) rfl)) (hw _ (List.mem_of_getElem? (i := 2) rfl)) (hw _ (List.mem_of_getElem? (i := 3) rfl)) (hw _ (List.mem_of_getElem? (i := 4) rfl)) (by decide) (c_pick6 l Z a0 hw h0 n0 w6 S_MAX) (argsL := [(.int (6 : Int32))]) (r := []) rfl (lenOf pd_0 rfl) rfl (Nat.le_of_eq rfl) (by decide) (by decide) (by decide) (by decide) (pc' := 25) rfl (fun T70 h70 v70 q70 S => ?_)
      obtain ⟨rfl, e70⟩ := q70; rw [e70] at S
      show Gl p e below s _ n0 _ T70 (mkF m 25 #[.val (.int p1), .val (.int p2), .val (.int p3), .val (.int (6 : Int32)), .val (.int p2), .unset] [(.ref w6)])
      refine g_astore C S at_25 (pc' := 27) rfl rfl (L' := #[.val (.int p1), .val (.int p2), .val (.int p3), .val (.int (6 : Int32)), .val (.int p2), .val (.ref w6)]) rfl ?_
      refine g_aload C S at_27 (pc' := 29) rfl rfl rfl ?_
      refine g_iload C S at_29 (pc' := 31) rfl rfl ?_
      refine g_callV C S (rm := ({ frames := 0, cells := 0, slots := 0, locals := 0 } : Room)) (W := 0) at_31 (hw _ (List.mem_of_getElem? (i := 8) rfl)) (hw _ (List.mem_of_getElem? (i := 9) rfl)) (notFace_of_selects (args := #[]) (mvT C.2.1 (hw _ (List.mem_of_getElem? (i := 11) rfl)))) (hw _ (List.mem_of_getElem? (i := 11) rfl)) (hw _ (List.mem_of_getElem? (i := 10) rfl)) (hw _ (List.mem_of_getElem? (i := 6) rfl)) (hw _ (List.mem_of_getElem? (i := 12) rfl)) (by decide) rfl X6 (c_rf6 l Z a0 hw w6 p2 h0 n0 w1 w7 w8 S_LAST S_POSITION S_STRING ne_6_1 ne_6_7 ne_6_8) (argsL := [(.int p2)]) (r := []) rfl (lenOf pd_1 rfl) rfl (Nat.le_of_eq rfl) (by decide) (by decide) (by decide) (by decide) (pc' := 34) rfl (fun T71 h71 v71 q71 S => ?_)
      obtain ⟨rfl, e71⟩ := q71; rw [e71] at S
      show Gl p e below s _ n0 _ T71 (mkF m 34 #[.val (.int p1), .val (.int p2), .val (.int p3), .val (.int (6 : Int32)), .val (.int p2), .val (.ref w6)] [(.int 0)])
      refine g_iloadN C S at_34 (pc' := 35) rfl rfl ?_
      refine g_iload C S at_35 (pc' := 37) rfl rfl ?_
      refine g_callS C S (rm := ({ frames := 0, cells := 0, slots := 0, locals := 0 } : Room)) (W := 1) at_37 (hw _ (List.mem_of_getElem? (i := 19) rfl)) (hw _ (List.mem_of_getElem? (i := 20) rfl)) (hw _ (List.mem_of_getElem? (i := 3) rfl)) (hw _ (List.mem_of_getElem? (i := 21) rfl)) (by decide) (c_exp6 l Z a0 hw p2 h0 n0) (argsL := [(.int (6 : Int32)), (.int p2)]) (r := [(.int 0)]) rfl (lenOf pd_2 rfl) rfl (Nat.le_of_eq rfl) (by decide) (by decide) (by decide) (by decide) (pc' := 40) rfl (fun T72 h72 v72 q72 S => ?_)
      obtain ⟨rfl, e72⟩ := q72; rw [e72] at S
      show Gl p e below s _ n0 _ T72 (mkF m 40 #[.val (.int p1), .val (.int p2), .val (.int p3), .val (.int (6 : Int32)), .val (.int p2), .val (.ref w6)] [(.int 0), (.int 0)])
      refine g_icmp_ne C S at_40 (pc' := 47) (pf := 43) (by decide) (by decide) rfl (fun hc40 => absurd rfl hc40) (fun hc40 => ?_)
      refine g_iconst C S (1 : Int32) at_43 (pc' := 44) rfl rfl ?_
      refine g_goto C S at_44 (pc' := 48) (by decide) (by decide) ?_
      exact g_retZ C S at_48 (by decide) (by decide) (by decide) (rfl)
    · refine g_iconst C S (0 : Int32) at_14 (pc' := 15) rfl rfl ?_
      refine g_goto C S at_15 (pc' := 19) (by decide) (by decide) ?_
      refine g_istore C S at_19 (pc' := 21) rfl (L' := #[.val (.int p1), .val (.int p2), .val (.int p3), .val (.int (6 : Int32)), .val (.int (0 : Int32)), .unset]) rfl ?_
      refine g_iloadN C S at_21 (pc' := 22) rfl rfl ?_
      refine g_callS C S (rm := ({ frames := 0, cells := 0, slots := 0, locals := 0 } : Room)) (W := 0) at_22 (hw _ (List.mem_of_getElem? (i := 1) rfl)) (hw _ (List.mem_of_getElem? (i := 2) rfl)) (hw _ (List.mem_of_getElem? (i := 3) rfl)) (hw _ (List.mem_of_getElem? (i := 4) rfl)) (by decide) (c_pick6 l Z a0 hw h0 n0 w6 S_MAX) (argsL := [(.int (6 : Int32))]) (r := []) rfl (lenOf pd_0 rfl) rfl (Nat.le_of_eq rfl) (by decide) (by decide) (by decide) (by decide) (pc' := 25) rfl (fun T73 h73 v73 q73 S => ?_)
      obtain ⟨rfl, e73⟩ := q73; rw [e73] at S
      show Gl p e below s _ n0 _ T73 (mkF m 25 #[.val (.int p1), .val (.int p2), .val (.int p3), .val (.int (6 : Int32)), .val (.int (0 : Int32)), .unset] [(.ref w6)])
      refine g_astore C S at_25 (pc' := 27) rfl rfl (L' := #[.val (.int p1), .val (.int p2), .val (.int p3), .val (.int (6 : Int32)), .val (.int (0 : Int32)), .val (.ref w6)]) rfl ?_
      refine g_aload C S at_27 (pc' := 29) rfl rfl rfl ?_
      refine g_iload C S at_29 (pc' := 31) rfl rfl ?_
      refine g_callV C S (rm := ({ frames := 0, cells := 0, slots := 0, locals := 0 } : Room)) (W := 0) at_31 (hw _ (List.mem_of_getElem? (i := 8) rfl)) (hw _ (List.mem_of_getElem? (i := 9) rfl)) (notFace_of_selects (args := #[]) (mvT C.2.1 (hw _ (List.mem_of_getElem? (i := 11) rfl)))) (hw _ (List.mem_of_getElem? (i := 11) rfl)) (hw _ (List.mem_of_getElem? (i := 10) rfl)) (hw _ (List.mem_of_getElem? (i := 6) rfl)) (hw _ (List.mem_of_getElem? (i := 12) rfl)) (by decide) rfl X6 (c_rf6 l Z a0 hw w6 (0 : Int32) h0 n0 w1 w7 w8 S_LAST S_POSITION S_STRING ne_6_1 ne_6_7 ne_6_8) (argsL := [(.int (0 : Int32))]) (r := []) rfl (lenOf pd_1 rfl) rfl (Nat.le_of_eq rfl) (by decide) (by decide) (by decide) (by decide) (pc' := 34) rfl (fun T74 h74 v74 q74 S => ?_)
      obtain ⟨rfl, e74⟩ := q74; rw [e74] at S
      show Gl p e below s _ n0 _ T74 (mkF m 34 #[.val (.int p1), .val (.int p2), .val (.int p3), .val (.int (6 : Int32)), .val (.int (0 : Int32)), .val (.ref w6)] [(.int 0)])
      refine g_iloadN C S at_34 (pc' := 35) rfl rfl ?_
      refine g_iload C S at_35 (pc' := 37) rfl rfl ?_
      refine g_callS C S (rm := ({ frames := 0, cells := 0, slots := 0, locals := 0 } : Room)) (W := 1) at_37 (hw _ (List.mem_of_getElem? (i := 19) rfl)) (hw _ (List.mem_of_getElem? (i := 20) rfl)) (hw _ (List.mem_of_getElem? (i := 3) rfl)) (hw _ (List.mem_of_getElem? (i := 21) rfl)) (by decide) (c_exp6 l Z a0 hw (0 : Int32) h0 n0) (argsL := [(.int (6 : Int32)), (.int (0 : Int32))]) (r := [(.int 0)]) rfl (lenOf pd_2 rfl) rfl (Nat.le_of_eq rfl) (by decide) (by decide) (by decide) (by decide) (pc' := 40) rfl (fun T75 h75 v75 q75 S => ?_)
      obtain ⟨rfl, e75⟩ := q75; rw [e75] at S
      show Gl p e below s _ n0 _ T75 (mkF m 40 #[.val (.int p1), .val (.int p2), .val (.int p3), .val (.int (6 : Int32)), .val (.int (0 : Int32)), .val (.ref w6)] [(.int 0), (.int 0)])
      refine g_icmp_ne C S at_40 (pc' := 47) (pf := 43) (by decide) (by decide) rfl (fun hc40 => absurd rfl hc40) (fun hc40 => ?_)
      refine g_iconst C S (1 : Int32) at_43 (pc' := 44) rfl rfl ?_
      refine g_goto C S at_44 (pc' := 48) (by decide) (by decide) ?_
      exact g_retZ C S at_48 (by decide) (by decide) (by decide) (rfl)
  · refine g_iloadN C S at_8 (pc' := 9) rfl rfl ?_
    refine g_iconst C S (1 : Int32) at_9 (pc' := 10) rfl rfl ?_
    refine g_iand C S at_10 (pc' := 11) rfl ?_
    refine g_if_eq C S at_11 (pc' := 18) (pf := 14) (by decide) (by decide) rfl (fun hc11 => ?_) (fun hc11 => ?_)
    · refine g_iloadN C S at_18 (pc' := 19) rfl rfl ?_
      refine g_istore C S at_19 (pc' := 21) rfl (L' := #[.val (.int p1), .val (.int p2), .val (.int p3), .val (.int (7 : Int32)), .val (.int p2), .unset]) rfl ?_
      refine g_iloadN C S at_21 (pc' := 22) rfl rfl ?_
      refine g_callS C S (rm := ({ frames := 0, cells := 0, slots := 0, locals := 0 } : Room)) (W := 0) at_22 (hw _ (List.mem_of_getElem? (i := 1) rfl)) (hw _ (List.mem_of_getElem? (i := 2) rfl)) (hw _ (List.mem_of_getElem? (i := 3) rfl)) (hw _ (List.mem_of_getElem? (i := 4) rfl)) (by decide) (c_pick7 l Z a0 hw h0 n0 w7 S_LAST) (argsL := [(.int (7 : Int32))]) (r := []) rfl (lenOf pd_0 rfl) rfl (Nat.le_of_eq rfl) (by decide) (by decide) (by decide) (by decide) (pc' := 25) rfl (fun T76 h76 v76 q76 S => ?_)
      obtain ⟨rfl, e76⟩ := q76; rw [e76] at S
      show Gl p e below s _ n0 _ T76 (mkF m 25 #[.val (.int p1), .val (.int p2), .val (.int p3), .val (.int (7 : Int32)), .val (.int p2), .unset] [(.ref w7)])
      refine g_astore C S at_25 (pc' := 27) rfl rfl (L' := #[.val (.int p1), .val (.int p2), .val (.int p3), .val (.int (7 : Int32)), .val (.int p2), .val (.ref w7)]) rfl ?_
      refine g_aload C S at_27 (pc' := 29) rfl rfl rfl ?_
      refine g_iload C S at_29 (pc' := 31) rfl rfl ?_
      refine g_callV C S (rm := ({ frames := 0, cells := 0, slots := 0, locals := 0 } : Room)) (W := 0) at_31 (hw _ (List.mem_of_getElem? (i := 8) rfl)) (hw _ (List.mem_of_getElem? (i := 9) rfl)) (notFace_of_selects (args := #[]) (mvT C.2.1 (hw _ (List.mem_of_getElem? (i := 11) rfl)))) (hw _ (List.mem_of_getElem? (i := 11) rfl)) (hw _ (List.mem_of_getElem? (i := 10) rfl)) (hw _ (List.mem_of_getElem? (i := 6) rfl)) (hw _ (List.mem_of_getElem? (i := 12) rfl)) (by decide) rfl X7 (c_rf7 l Z a0 hw w7 p2 h0 n0 w1 w8 S_LAST S_POSITION S_STRING ne_7_1 ne_7_8) (argsL := [(.int p2)]) (r := []) rfl (lenOf pd_1 rfl) rfl (Nat.le_of_eq rfl) (by decide) (by decide) (by decide) (by decide) (pc' := 34) rfl (fun T77 h77 v77 q77 S => ?_)
      obtain ⟨rfl, e77⟩ := q77; rw [e77] at S
      show Gl p e below s _ n0 _ T77 (mkF m 34 #[.val (.int p1), .val (.int p2), .val (.int p3), .val (.int (7 : Int32)), .val (.int p2), .val (.ref w7)] [(.int 1)])
      refine g_iloadN C S at_34 (pc' := 35) rfl rfl ?_
      refine g_iload C S at_35 (pc' := 37) rfl rfl ?_
      refine g_callS C S (rm := ({ frames := 0, cells := 0, slots := 0, locals := 0 } : Room)) (W := 1) at_37 (hw _ (List.mem_of_getElem? (i := 19) rfl)) (hw _ (List.mem_of_getElem? (i := 20) rfl)) (hw _ (List.mem_of_getElem? (i := 3) rfl)) (hw _ (List.mem_of_getElem? (i := 21) rfl)) (by decide) (c_exp7 l Z a0 hw p2 h0 n0) (argsL := [(.int (7 : Int32)), (.int p2)]) (r := [(.int 1)]) rfl (lenOf pd_2 rfl) rfl (Nat.le_of_eq rfl) (by decide) (by decide) (by decide) (by decide) (pc' := 40) rfl (fun T78 h78 v78 q78 S => ?_)
      obtain ⟨rfl, e78⟩ := q78; rw [e78] at S
      show Gl p e below s _ n0 _ T78 (mkF m 40 #[.val (.int p1), .val (.int p2), .val (.int p3), .val (.int (7 : Int32)), .val (.int p2), .val (.ref w7)] [(.int 1), (.int 1)])
      refine g_icmp_ne C S at_40 (pc' := 47) (pf := 43) (by decide) (by decide) rfl (fun hc40 => absurd rfl hc40) (fun hc40 => ?_)
      refine g_iconst C S (1 : Int32) at_43 (pc' := 44) rfl rfl ?_
      refine g_goto C S at_44 (pc' := 48) (by decide) (by decide) ?_
      exact g_retZ C S at_48 (by decide) (by decide) (by decide) (rfl)
    · refine g_iconst C S (0 : Int32) at_14 (pc' := 15) rfl rfl ?_
      refine g_goto C S at_15 (pc' := 19) (by decide) (by decide) ?_
      refine g_istore C S at_19 (pc' := 21) rfl (L' := #[.val (.int p1), .val (.int p2), .val (.int p3), .val (.int (7 : Int32)), .val (.int (0 : Int32)), .unset]) rfl ?_
      refine g_iloadN C S at_21 (pc' := 22) rfl rfl ?_
      refine g_callS C S (rm := ({ frames := 0, cells := 0, slots := 0, locals := 0 } : Room)) (W := 0) at_22 (hw _ (List.mem_of_getElem? (i := 1) rfl)) (hw _ (List.mem_of_getElem? (i := 2) rfl)) (hw _ (List.mem_of_getElem? (i := 3) rfl)) (hw _ (List.mem_of_getElem? (i := 4) rfl)) (by decide) (c_pick7 l Z a0 hw h0 n0 w7 S_LAST) (argsL := [(.int (7 : Int32))]) (r := []) rfl (lenOf pd_0 rfl) rfl (Nat.le_of_eq rfl) (by decide) (by decide) (by decide) (by decide) (pc' := 25) rfl (fun T79 h79 v79 q79 S => ?_)
      obtain ⟨rfl, e79⟩ := q79; rw [e79] at S
      show Gl p e below s _ n0 _ T79 (mkF m 25 #[.val (.int p1), .val (.int p2), .val (.int p3), .val (.int (7 : Int32)), .val (.int (0 : Int32)), .unset] [(.ref w7)])
      refine g_astore C S at_25 (pc' := 27) rfl rfl (L' := #[.val (.int p1), .val (.int p2), .val (.int p3), .val (.int (7 : Int32)), .val (.int (0 : Int32)), .val (.ref w7)]) rfl ?_
      refine g_aload C S at_27 (pc' := 29) rfl rfl rfl ?_
      refine g_iload C S at_29 (pc' := 31) rfl rfl ?_
      refine g_callV C S (rm := ({ frames := 0, cells := 0, slots := 0, locals := 0 } : Room)) (W := 0) at_31 (hw _ (List.mem_of_getElem? (i := 8) rfl)) (hw _ (List.mem_of_getElem? (i := 9) rfl)) (notFace_of_selects (args := #[]) (mvT C.2.1 (hw _ (List.mem_of_getElem? (i := 11) rfl)))) (hw _ (List.mem_of_getElem? (i := 11) rfl)) (hw _ (List.mem_of_getElem? (i := 10) rfl)) (hw _ (List.mem_of_getElem? (i := 6) rfl)) (hw _ (List.mem_of_getElem? (i := 12) rfl)) (by decide) rfl X7 (c_rf7 l Z a0 hw w7 (0 : Int32) h0 n0 w1 w8 S_LAST S_POSITION S_STRING ne_7_1 ne_7_8) (argsL := [(.int (0 : Int32))]) (r := []) rfl (lenOf pd_1 rfl) rfl (Nat.le_of_eq rfl) (by decide) (by decide) (by decide) (by decide) (pc' := 34) rfl (fun T80 h80 v80 q80 S => ?_)
      obtain ⟨rfl, e80⟩ := q80; rw [e80] at S
      show Gl p e below s _ n0 _ T80 (mkF m 34 #[.val (.int p1), .val (.int p2), .val (.int p3), .val (.int (7 : Int32)), .val (.int (0 : Int32)), .val (.ref w7)] [(.int 1)])
      refine g_iloadN C S at_34 (pc' := 35) rfl rfl ?_
      refine g_iload C S at_35 (pc' := 37) rfl rfl ?_
      refine g_callS C S (rm := ({ frames := 0, cells := 0, slots := 0, locals := 0 } : Room)) (W := 1) at_37 (hw _ (List.mem_of_getElem? (i := 19) rfl)) (hw _ (List.mem_of_getElem? (i := 20) rfl)) (hw _ (List.mem_of_getElem? (i := 3) rfl)) (hw _ (List.mem_of_getElem? (i := 21) rfl)) (by decide) (c_exp7 l Z a0 hw (0 : Int32) h0 n0) (argsL := [(.int (7 : Int32)), (.int (0 : Int32))]) (r := [(.int 1)]) rfl (lenOf pd_2 rfl) rfl (Nat.le_of_eq rfl) (by decide) (by decide) (by decide) (by decide) (pc' := 40) rfl (fun T81 h81 v81 q81 S => ?_)
      obtain ⟨rfl, e81⟩ := q81; rw [e81] at S
      show Gl p e below s _ n0 _ T81 (mkF m 40 #[.val (.int p1), .val (.int p2), .val (.int p3), .val (.int (7 : Int32)), .val (.int (0 : Int32)), .val (.ref w7)] [(.int 1), (.int 1)])
      refine g_icmp_ne C S at_40 (pc' := 47) (pf := 43) (by decide) (by decide) rfl (fun hc40 => absurd rfl hc40) (fun hc40 => ?_)
      refine g_iconst C S (1 : Int32) at_43 (pc' := 44) rfl rfl ?_
      refine g_goto C S at_44 (pc' := 48) (by decide) (by decide) ?_
      exact g_retZ C S at_48 (by decide) (by decide) (by decide) (rfl)
  · refine g_iloadN C S at_8 (pc' := 9) rfl rfl ?_
    refine g_iconst C S (1 : Int32) at_9 (pc' := 10) rfl rfl ?_
    refine g_iand C S at_10 (pc' := 11) rfl ?_
    refine g_if_eq C S at_11 (pc' := 18) (pf := 14) (by decide) (by decide) rfl (fun hc11 => ?_) (fun hc11 => ?_)
    · refine g_iloadN C S at_18 (pc' := 19) rfl rfl ?_
      refine g_istore C S at_19 (pc' := 21) rfl (L' := #[.val (.int p1), .val (.int p2), .val (.int p3), .val (.int (8 : Int32)), .val (.int p2), .unset]) rfl ?_
      refine g_iloadN C S at_21 (pc' := 22) rfl rfl ?_
      refine g_callS C S (rm := ({ frames := 0, cells := 0, slots := 0, locals := 0 } : Room)) (W := 0) at_22 (hw _ (List.mem_of_getElem? (i := 1) rfl)) (hw _ (List.mem_of_getElem? (i := 2) rfl)) (hw _ (List.mem_of_getElem? (i := 3) rfl)) (hw _ (List.mem_of_getElem? (i := 4) rfl)) (by decide) (c_pick8 l Z a0 hw h0 n0 w8 S_POSITION) (argsL := [(.int (8 : Int32))]) (r := []) rfl (lenOf pd_0 rfl) rfl (Nat.le_of_eq rfl) (by decide) (by decide) (by decide) (by decide) (pc' := 25) rfl (fun T82 h82 v82 q82 S => ?_)
      obtain ⟨rfl, e82⟩ := q82; rw [e82] at S
      show Gl p e below s _ n0 _ T82 (mkF m 25 #[.val (.int p1), .val (.int p2), .val (.int p3), .val (.int (8 : Int32)), .val (.int p2), .unset] [(.ref w8)])
      refine g_astore C S at_25 (pc' := 27) rfl rfl (L' := #[.val (.int p1), .val (.int p2), .val (.int p3), .val (.int (8 : Int32)), .val (.int p2), .val (.ref w8)]) rfl ?_
      refine g_aload C S at_27 (pc' := 29) rfl rfl rfl ?_
      refine g_iload C S at_29 (pc' := 31) rfl rfl ?_
      refine g_callV C S (rm := ({ frames := 0, cells := 0, slots := 0, locals := 0 } : Room)) (W := 0) at_31 (hw _ (List.mem_of_getElem? (i := 8) rfl)) (hw _ (List.mem_of_getElem? (i := 9) rfl)) (notFace_of_selects (args := #[]) (mvT C.2.1 (hw _ (List.mem_of_getElem? (i := 11) rfl)))) (hw _ (List.mem_of_getElem? (i := 11) rfl)) (hw _ (List.mem_of_getElem? (i := 10) rfl)) (hw _ (List.mem_of_getElem? (i := 6) rfl)) (hw _ (List.mem_of_getElem? (i := 12) rfl)) (by decide) rfl X8 (c_rf8 l Z a0 hw w8 p2 h0 n0 w1 w7 S_LAST S_POSITION S_STRING ne_8_1 ne_8_7) (argsL := [(.int p2)]) (r := []) rfl (lenOf pd_1 rfl) rfl (Nat.le_of_eq rfl) (by decide) (by decide) (by decide) (by decide) (pc' := 34) rfl (fun T83 h83 v83 q83 S => ?_)
      obtain ⟨rfl, e83⟩ := q83; rw [e83] at S
      show Gl p e below s _ n0 _ T83 (mkF m 34 #[.val (.int p1), .val (.int p2), .val (.int p3), .val (.int (8 : Int32)), .val (.int p2), .val (.ref w8)] [(.int 1)])
      refine g_iloadN C S at_34 (pc' := 35) rfl rfl ?_
      refine g_iload C S at_35 (pc' := 37) rfl rfl ?_
      refine g_callS C S (rm := ({ frames := 0, cells := 0, slots := 0, locals := 0 } : Room)) (W := 1) at_37 (hw _ (List.mem_of_getElem? (i := 19) rfl)) (hw _ (List.mem_of_getElem? (i := 20) rfl)) (hw _ (List.mem_of_getElem? (i := 3) rfl)) (hw _ (List.mem_of_getElem? (i := 21) rfl)) (by decide) (c_exp8 l Z a0 hw p2 h0 n0) (argsL := [(.int (8 : Int32)), (.int p2)]) (r := [(.int 1)]) rfl (lenOf pd_2 rfl) rfl (Nat.le_of_eq rfl) (by decide) (by decide) (by decide) (by decide) (pc' := 40) rfl (fun T84 h84 v84 q84 S => ?_)
      obtain ⟨rfl, e84⟩ := q84; rw [e84] at S
      show Gl p e below s _ n0 _ T84 (mkF m 40 #[.val (.int p1), .val (.int p2), .val (.int p3), .val (.int (8 : Int32)), .val (.int p2), .val (.ref w8)] [(.int 1), (.int 1)])
      refine g_icmp_ne C S at_40 (pc' := 47) (pf := 43) (by decide) (by decide) rfl (fun hc40 => absurd rfl hc40) (fun hc40 => ?_)
      refine g_iconst C S (1 : Int32) at_43 (pc' := 44) rfl rfl ?_
      refine g_goto C S at_44 (pc' := 48) (by decide) (by decide) ?_
      exact g_retZ C S at_48 (by decide) (by decide) (by decide) (rfl)
    · refine g_iconst C S (0 : Int32) at_14 (pc' := 15) rfl rfl ?_
      refine g_goto C S at_15 (pc' := 19) (by decide) (by decide) ?_
      refine g_istore C S at_19 (pc' := 21) rfl (L' := #[.val (.int p1), .val (.int p2), .val (.int p3), .val (.int (8 : Int32)), .val (.int (0 : Int32)), .unset]) rfl ?_
      refine g_iloadN C S at_21 (pc' := 22) rfl rfl ?_
      refine g_callS C S (rm := ({ frames := 0, cells := 0, slots := 0, locals := 0 } : Room)) (W := 0) at_22 (hw _ (List.mem_of_getElem? (i := 1) rfl)) (hw _ (List.mem_of_getElem? (i := 2) rfl)) (hw _ (List.mem_of_getElem? (i := 3) rfl)) (hw _ (List.mem_of_getElem? (i := 4) rfl)) (by decide) (c_pick8 l Z a0 hw h0 n0 w8 S_POSITION) (argsL := [(.int (8 : Int32))]) (r := []) rfl (lenOf pd_0 rfl) rfl (Nat.le_of_eq rfl) (by decide) (by decide) (by decide) (by decide) (pc' := 25) rfl (fun T85 h85 v85 q85 S => ?_)
      obtain ⟨rfl, e85⟩ := q85; rw [e85] at S
      show Gl p e below s _ n0 _ T85 (mkF m 25 #[.val (.int p1), .val (.int p2), .val (.int p3), .val (.int (8 : Int32)), .val (.int (0 : Int32)), .unset] [(.ref w8)])
      refine g_astore C S at_25 (pc' := 27) rfl rfl (L' := #[.val (.int p1), .val (.int p2), .val (.int p3), .val (.int (8 : Int32)), .val (.int (0 : Int32)), .val (.ref w8)]) rfl ?_
      refine g_aload C S at_27 (pc' := 29) rfl rfl rfl ?_
      refine g_iload C S at_29 (pc' := 31) rfl rfl ?_
      refine g_callV C S (rm := ({ frames := 0, cells := 0, slots := 0, locals := 0 } : Room)) (W := 0) at_31 (hw _ (List.mem_of_getElem? (i := 8) rfl)) (hw _ (List.mem_of_getElem? (i := 9) rfl)) (notFace_of_selects (args := #[]) (mvT C.2.1 (hw _ (List.mem_of_getElem? (i := 11) rfl)))) (hw _ (List.mem_of_getElem? (i := 11) rfl)) (hw _ (List.mem_of_getElem? (i := 10) rfl)) (hw _ (List.mem_of_getElem? (i := 6) rfl)) (hw _ (List.mem_of_getElem? (i := 12) rfl)) (by decide) rfl X8 (c_rf8 l Z a0 hw w8 (0 : Int32) h0 n0 w1 w7 S_LAST S_POSITION S_STRING ne_8_1 ne_8_7) (argsL := [(.int (0 : Int32))]) (r := []) rfl (lenOf pd_1 rfl) rfl (Nat.le_of_eq rfl) (by decide) (by decide) (by decide) (by decide) (pc' := 34) rfl (fun T86 h86 v86 q86 S => ?_)
      obtain ⟨rfl, e86⟩ := q86; rw [e86] at S
      show Gl p e below s _ n0 _ T86 (mkF m 34 #[.val (.int p1), .val (.int p2), .val (.int p3), .val (.int (8 : Int32)), .val (.int (0 : Int32)), .val (.ref w8)] [(.int 1)])
      refine g_iloadN C S at_34 (pc' := 35) rfl rfl ?_
      refine g_iload C S at_35 (pc' := 37) rfl rfl ?_
      refine g_callS C S (rm := ({ frames := 0, cells := 0, slots := 0, locals := 0 } : Room)) (W := 1) at_37 (hw _ (List.mem_of_getElem? (i := 19) rfl)) (hw _ (List.mem_of_getElem? (i := 20) rfl)) (hw _ (List.mem_of_getElem? (i := 3) rfl)) (hw _ (List.mem_of_getElem? (i := 21) rfl)) (by decide) (c_exp8 l Z a0 hw (0 : Int32) h0 n0) (argsL := [(.int (8 : Int32)), (.int (0 : Int32))]) (r := [(.int 1)]) rfl (lenOf pd_2 rfl) rfl (Nat.le_of_eq rfl) (by decide) (by decide) (by decide) (by decide) (pc' := 40) rfl (fun T87 h87 v87 q87 S => ?_)
      obtain ⟨rfl, e87⟩ := q87; rw [e87] at S
      show Gl p e below s _ n0 _ T87 (mkF m 40 #[.val (.int p1), .val (.int p2), .val (.int p3), .val (.int (8 : Int32)), .val (.int (0 : Int32)), .val (.ref w8)] [(.int 1), (.int 1)])
      refine g_icmp_ne C S at_40 (pc' := 47) (pf := 43) (by decide) (by decide) rfl (fun hc40 => absurd rfl hc40) (fun hc40 => ?_)
      refine g_iconst C S (1 : Int32) at_43 (pc' := 44) rfl rfl ?_
      refine g_goto C S at_44 (pc' := 48) (by decide) (by decide) ?_
      exact g_retZ C S at_48 (by decide) (by decide) (by decide) (rfl)
theorem gotV {args : Array Value} {s : State} {t : Term} {k : Int32} {xv yv : Value} (q1 : t.eval args s none [] s = some xv) (q2 : (Term.int k).eval args s none [] s = some yv) (h : (Jvm.Cond.eq t (.int k)).value args s none s [] = some true) : t.eval args s none [] s = some (.int k) := by
  have q4 : (Term.int k).eval args s none [] s = some (.int k) := rfl
  simp only [Cond.value, q1, q4] at h
  cases xv <;> simp at h
  rw [q1, h]
set_option maxRecDepth 65536 in
set_option maxHeartbeats 40000000 in
theorem comes_1 {Post : Tables → Env → Array Value → State → Outcome → State → Prop} (hpost : ∀ tb e args s v u, (limb_1_1.after args s (.returned v) u = true ∧ limb_1_2.after args s (.returned v) u = true ∧ True) → FrameEnd s (.returned v) u (Jvm.fieldLocs frame_1_writes args s ++ Jvm.arrayLocs frame_1_arrays args s ++ Jvm.staticLocs frame_1_statics s) 0 0 → Post tb e args s (.returned v) u) :
    ArmFor flags0 classFile x code maxLocals ret World_1 tables_1 room_1 Calls_1 rest_1 Pre_1 Post := by
  intro l hfl _ _ p e ha hc hk s m args below hf hA hF happ hP
  obtain ⟨hcalls, hrest, hpre⟩ := hP
  obtain ⟨-, -, -, hnamed, -, -, -, hat⟩ := (Spec.applies_iff hf).mp happ
  obtain ⟨hg, hn⟩ := and_e (Cond.before_iff.mp (show (Jvm.Cond.and given_1 narrow_1).before args s = true from hpre))
  obtain ⟨hcount, hg0⟩ := and_e hg
  obtain ⟨ha0, hg1⟩ := and_e hg0
  obtain ⟨ha1, hg2⟩ := and_e hg1
  have ha2 := hg2
  obtain ⟨w0, w1, w2, rfl⟩ : ∃ w0 w1 w2 : Value, args = #[w0, w1, w2] := by
    have hs : args.size = 3 := by simpa [Cond.value, given_1] using hcount
    obtain ⟨L⟩ := args
    match L, hs with
    | [w0, w1, w2], _ => exact ⟨w0, w1, w2, rfl⟩
  have hw := fun d (hd : d ∈ tables_1) => atoms_spec (ws := Jvm.Cond.code x code maxLocals ret :: tables_1) hat d (List.mem_cons_of_mem _ hd)
  obtain ⟨i0, ei0⟩ := is_v ha0
  obtain rfl : w0 = (.int i0) := Option.some.inj ei0
  obtain ⟨i1, ei1⟩ := is_v ha1
  obtain rfl : w1 = (.int i1) := Option.some.inj ei1
  obtain ⟨i2, ei2⟩ := is_v ha2
  obtain rfl : w2 = (.int i2) := Option.some.inj ei2
  have hq0 := hn
  obtain ⟨x_COUNT, hn0⟩ := and_e hn
  obtain ⟨x_LAST, hn1⟩ := and_e hn0
  obtain ⟨o_COUNT, hn2⟩ := and_e hn1
  obtain ⟨o_LAST, hn3⟩ := and_e hn2
  obtain ⟨x_POSITION, hn4⟩ := and_e hn3
  obtain ⟨o_POSITION, hn5⟩ := and_e hn4
  obtain ⟨x_STRING, hn6⟩ := and_e hn5
  obtain ⟨o_STRING, hn7⟩ := and_e hn6
  obtain ⟨x_NOT, hn8⟩ := and_e hn7
  obtain ⟨o_NOT, hn9⟩ := and_e hn8
  obtain ⟨x_MAX, hn10⟩ := and_e hn9
  obtain ⟨o_MAX, hn11⟩ := and_e hn10
  obtain ⟨x_TRUE, hn12⟩ := and_e hn11
  obtain ⟨o_TRUE, hn13⟩ := and_e hn12
  obtain ⟨x_FALSE, hn14⟩ := and_e hn13
  obtain ⟨o_FALSE, hn15⟩ := and_e hn14
  obtain ⟨x_MIN, hn16⟩ := and_e hn15
  have o_MIN := hn16
  obtain ⟨w0, ew0⟩ := exa_v x_COUNT
  have X0 : Exa s s.heap w0 "com/example/upupa/upupa/expr/BuiltInFunction" := Exa.start ew0 x_COUNT
  have S_COUNT : Sta s s.heap "com/example/upupa/upupa/expr/BuiltInFunction" "COUNT" "Lcom/example/upupa/upupa/expr/BuiltInFunction;" (.ref w0) := Sta.start ew0 (Or.inr ⟨(hw _ (List.mem_of_getElem? (i := 6) rfl)), (hw _ (List.mem_of_getElem? (i := 7) rfl))⟩)
  have F0 : Fld s s.heap w0 "java/lang/Enum" "ordinal" "I" (.int 0) := by
    obtain ⟨xv, yv, q1, q2, -⟩ := cmp_v (Or.inl o_COUNT)
    have q3 := gotV q1 q2 o_COUNT
    exact Fld.start ((fld_at ew0).symm.trans q3)
  obtain ⟨w1, ew1⟩ := exa_v x_STRING
  have X1 : Exa s s.heap w1 "com/example/upupa/upupa/expr/BuiltInFunction" := Exa.start ew1 x_STRING
  have S_STRING : Sta s s.heap "com/example/upupa/upupa/expr/BuiltInFunction" "STRING" "Lcom/example/upupa/upupa/expr/BuiltInFunction;" (.ref w1) := Sta.start ew1 (Or.inr ⟨(hw _ (List.mem_of_getElem? (i := 6) rfl)), (hw _ (List.mem_of_getElem? (i := 18) rfl))⟩)
  have F1 : Fld s s.heap w1 "java/lang/Enum" "ordinal" "I" (.int 1) := by
    obtain ⟨xv, yv, q1, q2, -⟩ := cmp_v (Or.inl o_STRING)
    have q3 := gotV q1 q2 o_STRING
    exact Fld.start ((fld_at ew1).symm.trans q3)
  obtain ⟨w2, ew2⟩ := exa_v x_NOT
  have X2 : Exa s s.heap w2 "com/example/upupa/upupa/expr/BuiltInFunction" := Exa.start ew2 x_NOT
  have S_NOT : Sta s s.heap "com/example/upupa/upupa/expr/BuiltInFunction" "NOT" "Lcom/example/upupa/upupa/expr/BuiltInFunction;" (.ref w2) := Sta.start ew2 (Or.inr ⟨(hw _ (List.mem_of_getElem? (i := 6) rfl)), (hw _ (List.mem_of_getElem? (i := 24) rfl))⟩)
  have F2 : Fld s s.heap w2 "java/lang/Enum" "ordinal" "I" (.int 2) := by
    obtain ⟨xv, yv, q1, q2, -⟩ := cmp_v (Or.inl o_NOT)
    have q3 := gotV q1 q2 o_NOT
    exact Fld.start ((fld_at ew2).symm.trans q3)
  obtain ⟨w3, ew3⟩ := exa_v x_TRUE
  have X3 : Exa s s.heap w3 "com/example/upupa/upupa/expr/BuiltInFunction" := Exa.start ew3 x_TRUE
  have S_TRUE : Sta s s.heap "com/example/upupa/upupa/expr/BuiltInFunction" "TRUE" "Lcom/example/upupa/upupa/expr/BuiltInFunction;" (.ref w3) := Sta.start ew3 (Or.inr ⟨(hw _ (List.mem_of_getElem? (i := 6) rfl)), (hw _ (List.mem_of_getElem? (i := 30) rfl))⟩)
  have F3 : Fld s s.heap w3 "java/lang/Enum" "ordinal" "I" (.int 3) := by
    obtain ⟨xv, yv, q1, q2, -⟩ := cmp_v (Or.inl o_TRUE)
    have q3 := gotV q1 q2 o_TRUE
    exact Fld.start ((fld_at ew3).symm.trans q3)
  obtain ⟨w4, ew4⟩ := exa_v x_FALSE
  have X4 : Exa s s.heap w4 "com/example/upupa/upupa/expr/BuiltInFunction" := Exa.start ew4 x_FALSE
  have S_FALSE : Sta s s.heap "com/example/upupa/upupa/expr/BuiltInFunction" "FALSE" "Lcom/example/upupa/upupa/expr/BuiltInFunction;" (.ref w4) := Sta.start ew4 (Or.inr ⟨(hw _ (List.mem_of_getElem? (i := 6) rfl)), (hw _ (List.mem_of_getElem? (i := 32) rfl))⟩)
  have F4 : Fld s s.heap w4 "java/lang/Enum" "ordinal" "I" (.int 4) := by
    obtain ⟨xv, yv, q1, q2, -⟩ := cmp_v (Or.inl o_FALSE)
    have q3 := gotV q1 q2 o_FALSE
    exact Fld.start ((fld_at ew4).symm.trans q3)
  obtain ⟨w5, ew5⟩ := exa_v x_MIN
  have X5 : Exa s s.heap w5 "com/example/upupa/upupa/expr/BuiltInFunction" := Exa.start ew5 x_MIN
  have S_MIN : Sta s s.heap "com/example/upupa/upupa/expr/BuiltInFunction" "MIN" "Lcom/example/upupa/upupa/expr/BuiltInFunction;" (.ref w5) := Sta.start ew5 (Or.inr ⟨(hw _ (List.mem_of_getElem? (i := 6) rfl)), (hw _ (List.mem_of_getElem? (i := 34) rfl))⟩)
  have F5 : Fld s s.heap w5 "java/lang/Enum" "ordinal" "I" (.int 5) := by
    obtain ⟨xv, yv, q1, q2, -⟩ := cmp_v (Or.inl o_MIN)
    have q3 := gotV q1 q2 o_MIN
    exact Fld.start ((fld_at ew5).symm.trans q3)
  obtain ⟨w6, ew6⟩ := exa_v x_MAX
  have X6 : Exa s s.heap w6 "com/example/upupa/upupa/expr/BuiltInFunction" := Exa.start ew6 x_MAX
  have S_MAX : Sta s s.heap "com/example/upupa/upupa/expr/BuiltInFunction" "MAX" "Lcom/example/upupa/upupa/expr/BuiltInFunction;" (.ref w6) := Sta.start ew6 (Or.inr ⟨(hw _ (List.mem_of_getElem? (i := 6) rfl)), (hw _ (List.mem_of_getElem? (i := 27) rfl))⟩)
  have F6 : Fld s s.heap w6 "java/lang/Enum" "ordinal" "I" (.int 6) := by
    obtain ⟨xv, yv, q1, q2, -⟩ := cmp_v (Or.inl o_MAX)
    have q3 := gotV q1 q2 o_MAX
    exact Fld.start ((fld_at ew6).symm.trans q3)
  obtain ⟨w7, ew7⟩ := exa_v x_LAST
  have X7 : Exa s s.heap w7 "com/example/upupa/upupa/expr/BuiltInFunction" := Exa.start ew7 x_LAST
  have S_LAST : Sta s s.heap "com/example/upupa/upupa/expr/BuiltInFunction" "LAST" "Lcom/example/upupa/upupa/expr/BuiltInFunction;" (.ref w7) := Sta.start ew7 (Or.inr ⟨(hw _ (List.mem_of_getElem? (i := 6) rfl)), (hw _ (List.mem_of_getElem? (i := 14) rfl))⟩)
  have F7 : Fld s s.heap w7 "java/lang/Enum" "ordinal" "I" (.int 7) := by
    obtain ⟨xv, yv, q1, q2, -⟩ := cmp_v (Or.inl o_LAST)
    have q3 := gotV q1 q2 o_LAST
    exact Fld.start ((fld_at ew7).symm.trans q3)
  obtain ⟨w8, ew8⟩ := exa_v x_POSITION
  have X8 : Exa s s.heap w8 "com/example/upupa/upupa/expr/BuiltInFunction" := Exa.start ew8 x_POSITION
  have S_POSITION : Sta s s.heap "com/example/upupa/upupa/expr/BuiltInFunction" "POSITION" "Lcom/example/upupa/upupa/expr/BuiltInFunction;" (.ref w8) := Sta.start ew8 (Or.inr ⟨(hw _ (List.mem_of_getElem? (i := 6) rfl)), (hw _ (List.mem_of_getElem? (i := 16) rfl))⟩)
  have F8 : Fld s s.heap w8 "java/lang/Enum" "ordinal" "I" (.int 8) := by
    obtain ⟨xv, yv, q1, q2, -⟩ := cmp_v (Or.inl o_POSITION)
    have q3 := gotV q1 q2 o_POSITION
    exact Fld.start ((fld_at ew8).symm.trans q3)
  have ne_0_1 : w0 ≠ w1 := F0.ne F1 (by decide)
  have ne_0_7 : w0 ≠ w7 := F0.ne F7 (by decide)
  have ne_0_8 : w0 ≠ w8 := F0.ne F8 (by decide)
  have ne_1_7 : w1 ≠ w7 := F1.ne F7 (by decide)
  have ne_1_8 : w1 ≠ w8 := F1.ne F8 (by decide)
  have ne_2_1 : w2 ≠ w1 := F2.ne F1 (by decide)
  have ne_2_7 : w2 ≠ w7 := F2.ne F7 (by decide)
  have ne_2_8 : w2 ≠ w8 := F2.ne F8 (by decide)
  have ne_3_1 : w3 ≠ w1 := F3.ne F1 (by decide)
  have ne_3_7 : w3 ≠ w7 := F3.ne F7 (by decide)
  have ne_3_8 : w3 ≠ w8 := F3.ne F8 (by decide)
  have ne_4_1 : w4 ≠ w1 := F4.ne F1 (by decide)
  have ne_4_7 : w4 ≠ w7 := F4.ne F7 (by decide)
  have ne_4_8 : w4 ≠ w8 := F4.ne F8 (by decide)
  have ne_5_1 : w5 ≠ w1 := F5.ne F1 (by decide)
  have ne_5_7 : w5 ≠ w7 := F5.ne F7 (by decide)
  have ne_5_8 : w5 ≠ w8 := F5.ne F8 (by decide)
  have ne_6_1 : w6 ≠ w1 := F6.ne F1 (by decide)
  have ne_6_7 : w6 ≠ w7 := F6.ne F7 (by decide)
  have ne_6_8 : w6 ≠ w8 := F6.ne F8 (by decide)
  have ne_7_1 : w7 ≠ w1 := F7.ne F1 (by decide)
  have ne_7_8 : w7 ≠ w8 := F7.ne F8 (by decide)
  have ne_8_1 : w8 ≠ w1 := F8.ne F1 (by decide)
  have ne_8_7 : w8 ≠ w7 := F8.ne F7 (by decide)
  obtain ⟨n, o, h1, h2, h3, _, L, rfl, ⟨rfl, N⟩, hq⟩ := c_law l s _ hw i0 i1 i2 s.heap s.heap.size w0 w1 w2 w3 w4 w5 w6 w7 w8 S_COUNT S_STRING S_NOT S_TRUE S_FALSE S_MIN S_MAX S_LAST S_POSITION X0 X1 X2 X3 X4 X5 X6 X7 X8 ne_0_1 ne_0_7 ne_0_8 ne_1_7 ne_1_8 ne_2_1 ne_2_7 ne_2_8 ne_3_1 ne_3_7 ne_3_8 ne_4_1 ne_4_7 ne_4_8 ne_5_1 ne_5_7 ne_5_8 ne_6_1 ne_6_7 ne_6_8 ne_7_1 ne_7_8 ne_8_1 ne_8_7 tables_1 p e ha hc hk s m _ below hf ((Spec.applies_iff_loose hf).mp happ).1 ⟨rfl, State.Warmed39.refl s, rfl⟩ trivial
  refine ⟨n, _, h1, h2, h3, hpost _ _ _ _ _ _ ⟨Cond.after_iff.mpr rfl, Cond.after_iff.mpr (eq_i res_at (Term.int_eval (1)) rfl), trivial⟩ ⟨hq.1, hq.2.1, (hq.2.2.sift fun y hy => Or.inr (N y hy)).mono (by decide) (by decide)⟩⟩
theorem main_1_1 : Claimed_1_1 := comes_1 fun _ _ _ _ _ _ h hF => ⟨h.1, hF⟩
theorem main_1_2 : Claimed_1_2 := comes_1 fun _ _ _ _ _ _ h hF => ⟨h.2.1, hF⟩
end Jvm.Pilot.@@N@@
namespace Jvm.Pilot.@@N@@
open Jvm Jvm.ClassFile Sem Op Lib Jvm.Free Jvm.Stand Jvm.Pilot.@@N@@.Jvm.D
/-! MADE BY PROGRAM (witnessworld.py) out of the Statement's table words and the real class files: 12 classes; the members and pool entries that the words name. The judged class is class 1, her method 3. -/
namespace start1
open Jvm.ClassFile
def u (s : String) : CpInfo := .utf8 (stringToUtf16 s)
/-- a pool by its gaps: so many unusable entries, then the entry; so many at the end -/
def gap : Nat → List CpInfo → List CpInfo
  | 0, r => r
  | n + 1, r => .unusable :: gap n r
def poolList (es : List (Nat × CpInfo)) (last : Nat) : List CpInfo := es.foldr (fun e r => gap e.1 (e.2 :: r)) (gap last [])
def pool (es : List (Nat × CpInfo)) (last : Nat) : Array CpInfo := ⟨poolList es last⟩
def fileOf (pool : Array CpInfo) (this : Nat) (attrs : Array Attribute := #[]) (ms : Array MethodInfo := #[]) (fl : Nat := 33) (sup : Nat := 0) (ifs : Array Nat := #[]) (fds : Array FieldInfo := #[]) : ClassFile where
  minorVersion := 0
  majorVersion := 65
  constantPool := pool
  accessFlags := fl
  thisClass := this
  superClass := sup
  interfaces := ifs
  fields := fds
  methods := ms
  attributes := attrs
def plain (name : String) (sup : Option ClassId) : Class where
  name := name
  kind := .ordinary
  loader := none
  accessFlags := 33
  super := sup
  interfaces := #[]
  cf := none
  fields := #[]
  methods := #[]
  instanceTypes := #[]
  staticTypes := #[]
  resolved := #[]
  callSites := []
  init := .initialized
  statics := none
  mirror := none

def pool0 : Array CpInfo := pool [(5, u "<init>"), (0, u "()V"), (1, .class_ 10), (1, u "java/lang/Object")] 113

def k0m0 : Method := { name := "<init>", desc := "()V", sig := { parameters := [], returnType := none }, accessFlags := 1, code := none }
/-- java/lang/Object -/
def k0 : Class := { plain "java/lang/Object" none with
  accessFlags := 33
  interfaces := #[]
  cf := some (fileOf pool0 8 #[] #[{ accessFlags := 1, nameIndex := 5, descriptorIndex := 6, attributes := #[] }] 33 0 #[] #[])
  fields := #[]
  methods := #[k0m0]
  instanceTypes := #[]
  staticTypes := #[]
  resolved := Array.replicate 124 none
  statics := none }

def pool1 : Array CpInfo := pool [(2, .class_ 4), (1, u "java/lang/Object"), (0, u "<init>"), (0, u "()V"), (0, .fieldref 8 9), (0, .class_ 10), (0, .nameAndType 11 12), (0, u "com/example/upupa/upupa/expr/BuiltInFunction"), (0, u "COUNT"), (0, u "Lcom/example/upupa/upupa/expr/BuiltInFunction;"), (0, .fieldref 8 14), (0, .nameAndType 15 12), (0, u "STRING"), (0, .fieldref 8 17), (0, .nameAndType 18 12), (0, u "NOT"), (0, .fieldref 8 20), (0, .nameAndType 21 12), (0, u "TRUE"), (0, .fieldref 8 23), (0, .nameAndType 24 12), (0, u "FALSE"), (0, .fieldref 8 26), (0, .nameAndType 27 12), (0, u "MIN"), (0, .fieldref 8 29), (0, .nameAndType 30 12), (0, u "MAX"), (0, .fieldref 8 32), (0, .nameAndType 33 12), (0, u "LAST"), (0, .fieldref 8 35), (0, .nameAndType 36 12), (0, u "POSITION"), (0, .integer 2147483647), (0, .methodref 39 40), (0, .class_ 41), (0, .nameAndType 42 43), (0, u "com/example/upupa/upupa/expr/BuiltInFunctionReadsFocusPinLaw"), (0, u "pick"), (0, u "(I)Lcom/example/upupa/upupa/expr/BuiltInFunction;"), (0, .methodref 8 45), (0, .nameAndType 46 47), (0, u "readsFocus"), (0, u "(I)Z"), (0, .methodref 39 49), (0, .nameAndType 50 51), (0, u "expected"), (0, u "(II)Z"), (3, u "law"), (0, u "(III)Z")] 2

def k1m0 : Method := { name := "<init>", desc := "()V", sig := { parameters := [], returnType := none }, accessFlags := 2, code := none }
def k1c1 : Code := { maxStack := 2, maxLocals := 2, code := method_2_code, exceptionTable := #[], attributes := #[] }
def k1m1 : Method := { name := "pick", desc := "(I)Lcom/example/upupa/upupa/expr/BuiltInFunction;", sig := { parameters := [.int], returnType := some (.object "com/example/upupa/upupa/expr/BuiltInFunction") }, accessFlags := 10, code := some k1c1 }
def k1c2 : Code := { maxStack := 2, maxLocals := 3, code := method_3_code, exceptionTable := #[], attributes := #[] }
def k1m2 : Method := { name := "expected", desc := "(II)Z", sig := { parameters := [.int, .int], returnType := some .boolean }, accessFlags := 10, code := some k1c2 }
def k1c3 : Code := { maxStack := 3, maxLocals := 6, code := code, exceptionTable := #[], attributes := #[] }
def k1m3 : Method := { name := "law", desc := "(III)Z", sig := { parameters := [.int, .int, .int], returnType := some .boolean }, accessFlags := 9, code := some k1c3 }
/-- com/example/upupa/upupa/expr/BuiltInFunctionReadsFocusPinLaw -/
def k1 : Class := { plain "com/example/upupa/upupa/expr/BuiltInFunctionReadsFocusPinLaw" (some 0) with
  accessFlags := 49
  interfaces := #[]
  cf := some (fileOf pool1 39 #[] #[{ accessFlags := 2, nameIndex := 5, descriptorIndex := 6, attributes := #[] }, { accessFlags := 10, nameIndex := 42, descriptorIndex := 43, attributes := #[] }, { accessFlags := 10, nameIndex := 50, descriptorIndex := 51, attributes := #[] }, { accessFlags := 9, nameIndex := 55, descriptorIndex := 56, attributes := #[] }] 49 2 #[] #[])
  fields := #[]
  methods := #[k1m0, k1m1, k1m2, k1m3]
  instanceTypes := #[]
  staticTypes := #[]
  resolved := Array.replicate 59 none
  statics := none }

def pool2 : Array CpInfo := pool [(1, .class_ 2), (0, u "java/lang/constant/Constable"), (0, .class_ 4), (0, u "java/lang/Object")] 6

/-- java/lang/constant/Constable -/
def k2 : Class := { plain "java/lang/constant/Constable" (some 0) with
  accessFlags := 1537
  interfaces := #[]
  cf := some (fileOf pool2 1 #[] #[] 1537 3 #[] #[])
  fields := #[]
  methods := #[]
  instanceTypes := #[]
  staticTypes := #[]
  resolved := Array.replicate 11 none
  statics := none }

def pool3 : Array CpInfo := pool [(1, .class_ 2), (0, u "java/lang/Comparable"), (0, .class_ 4), (0, u "java/lang/Object")] 7

/-- java/lang/Comparable -/
def k3 : Class := { plain "java/lang/Comparable" (some 0) with
  accessFlags := 1537
  interfaces := #[]
  cf := some (fileOf pool3 1 #[] #[] 1537 3 #[] #[])
  fields := #[]
  methods := #[]
  instanceTypes := #[]
  staticTypes := #[]
  resolved := Array.replicate 12 none
  statics := none }

def pool4 : Array CpInfo := pool [(1, .class_ 2), (0, u "java/io/Serializable"), (0, .class_ 4), (0, u "java/lang/Object")] 2

/-- java/io/Serializable -/
def k4 : Class := { plain "java/io/Serializable" (some 0) with
  accessFlags := 1537
  interfaces := #[]
  cf := some (fileOf pool4 1 #[] #[] 1537 3 #[] #[])
  fields := #[]
  methods := #[]
  instanceTypes := #[]
  staticTypes := #[]
  resolved := Array.replicate 7 none
  statics := none }

def pool5 : Array CpInfo := pool [(2, .class_ 4), (1, u "java/lang/Enum"), (0, u "name"), (0, u "Ljava/lang/String;"), (2, u "ordinal"), (0, u "I"), (1, .class_ 14), (1, u "java/lang/Object"), (4, u "hash"), (86, .class_ 108), (1, u "java/lang/Enum$EnumDesc"), (2, .class_ 112), (0, u "java/lang/constant/Constable"), (0, .class_ 114), (0, u "java/lang/Comparable"), (0, .class_ 116), (0, u "java/io/Serializable")] 87

/-- java/lang/Enum -/
def k5 : Class := { plain "java/lang/Enum" (some 0) with
  accessFlags := 1057
  interfaces := #[2, 3, 4]
  cf := some (fileOf pool5 2 #[.nestMembers #[106]] #[] 1057 12 #[111, 113, 115] #[{ accessFlags := 18, nameIndex := 5, descriptorIndex := 6, attributes := #[] }, { accessFlags := 18, nameIndex := 9, descriptorIndex := 10, attributes := #[] }, { accessFlags := 2, nameIndex := 19, descriptorIndex := 10, attributes := #[] }])
  fields := #[{ name := "name", type := (.object "java/lang/String"), accessFlags := 18, slot := 0, constantValue := 0 }, { name := "ordinal", type := .int, accessFlags := 18, slot := 1, constantValue := 0 }, { name := "hash", type := .int, accessFlags := 2, slot := 2, constantValue := 0 }]
  methods := #[]
  instanceTypes := #[(.object "java/lang/String"), .int, .int]
  staticTypes := #[]
  resolved := Array.replicate 204 none
  statics := none }

def pool6 : Array CpInfo := pool [(1, .class_ 2), (0, u "com/example/upupa/upupa/expr/BuiltInFunction"), (2, u "COUNT"), (0, u "Lcom/example/upupa/upupa/expr/BuiltInFunction;"), (0, .fieldref 1 8), (0, .nameAndType 9 6), (0, u "STRING"), (2, u "NOT"), (2, u "TRUE"), (2, u "FALSE"), (2, u "MIN"), (2, u "MAX"), (0, .fieldref 1 26), (0, .nameAndType 27 6), (0, u "LAST"), (0, .fieldref 1 29), (0, .nameAndType 30 6), (0, u "POSITION"), (2, u "$VALUES"), (0, u "[Lcom/example/upupa/upupa/expr/BuiltInFunction;"), (6, .class_ 43), (1, u "java/lang/Enum"), (15, u "localName"), (0, u "Ljava/lang/String;"), (2, u "minArity"), (0, u "I"), (2, u "maxArity"), (2, u "body"), (0, u "Lcom/example/upupa/upupa/expr/BuiltInFunction$BodyWithStaticContext;"), (34, .class_ 108), (1, u "com/example/upupa/upupa/expr/BuiltInFunction$BodyWithStaticContext"), (152, .class_ 263), (1, u "com/example/upupa/upupa/expr/BuiltInFunction$Body"), (83, u "NAMESPACE"), (12, u "readsFocus"), (0, u "(I)Z")] 93

def k6c0 : Code := { maxStack := 2, maxLocals := 2, code := prog_4_method_7_code, exceptionTable := #[], attributes := #[] }
def k6m0 : Method := { name := "readsFocus", desc := "(I)Z", sig := { parameters := [.int], returnType := some .boolean }, accessFlags := 0, code := some k6c0 }
/-- com/example/upupa/upupa/expr/BuiltInFunction -/
def k6 : Class := { plain "com/example/upupa/upupa/expr/BuiltInFunction" (some 5) with
  accessFlags := 16433
  interfaces := #[]
  cf := some (fileOf pool6 1 #[.nestMembers #[106, 261]] #[{ accessFlags := 0, nameIndex := 360, descriptorIndex := 361, attributes := #[] }] 16433 41 #[] #[{ accessFlags := 16409, nameIndex := 5, descriptorIndex := 6, attributes := #[] }, { accessFlags := 16409, nameIndex := 9, descriptorIndex := 6, attributes := #[] }, { accessFlags := 16409, nameIndex := 12, descriptorIndex := 6, attributes := #[] }, { accessFlags := 16409, nameIndex := 15, descriptorIndex := 6, attributes := #[] }, { accessFlags := 16409, nameIndex := 18, descriptorIndex := 6, attributes := #[] }, { accessFlags := 16409, nameIndex := 21, descriptorIndex := 6, attributes := #[] }, { accessFlags := 16409, nameIndex := 24, descriptorIndex := 6, attributes := #[] }, { accessFlags := 16409, nameIndex := 27, descriptorIndex := 6, attributes := #[] }, { accessFlags := 16409, nameIndex := 30, descriptorIndex := 6, attributes := #[] }, { accessFlags := 25, nameIndex := 347, descriptorIndex := 60, attributes := #[] }, { accessFlags := 18, nameIndex := 59, descriptorIndex := 60, attributes := #[] }, { accessFlags := 18, nameIndex := 63, descriptorIndex := 64, attributes := #[] }, { accessFlags := 18, nameIndex := 67, descriptorIndex := 64, attributes := #[] }, { accessFlags := 18, nameIndex := 70, descriptorIndex := 71, attributes := #[] }, { accessFlags := 4122, nameIndex := 33, descriptorIndex := 34, attributes := #[] }])
  fields := #[{ name := "COUNT", type := (.object "com/example/upupa/upupa/expr/BuiltInFunction"), accessFlags := 16409, slot := 0, constantValue := 0 }, { name := "STRING", type := (.object "com/example/upupa/upupa/expr/BuiltInFunction"), accessFlags := 16409, slot := 1, constantValue := 0 }, { name := "NOT", type := (.object "com/example/upupa/upupa/expr/BuiltInFunction"), accessFlags := 16409, slot := 2, constantValue := 0 }, { name := "TRUE", type := (.object "com/example/upupa/upupa/expr/BuiltInFunction"), accessFlags := 16409, slot := 3, constantValue := 0 }, { name := "FALSE", type := (.object "com/example/upupa/upupa/expr/BuiltInFunction"), accessFlags := 16409, slot := 4, constantValue := 0 }, { name := "MIN", type := (.object "com/example/upupa/upupa/expr/BuiltInFunction"), accessFlags := 16409, slot := 5, constantValue := 0 }, { name := "MAX", type := (.object "com/example/upupa/upupa/expr/BuiltInFunction"), accessFlags := 16409, slot := 6, constantValue := 0 }, { name := "LAST", type := (.object "com/example/upupa/upupa/expr/BuiltInFunction"), accessFlags := 16409, slot := 7, constantValue := 0 }, { name := "POSITION", type := (.object "com/example/upupa/upupa/expr/BuiltInFunction"), accessFlags := 16409, slot := 8, constantValue := 0 }, { name := "NAMESPACE", type := (.object "java/lang/String"), accessFlags := 25, slot := 9, constantValue := 0 }, { name := "localName", type := (.object "java/lang/String"), accessFlags := 18, slot := 3, constantValue := 0 }, { name := "minArity", type := .int, accessFlags := 18, slot := 4, constantValue := 0 }, { name := "maxArity", type := .int, accessFlags := 18, slot := 5, constantValue := 0 }, { name := "body", type := (.object "com/example/upupa/upupa/expr/BuiltInFunction$BodyWithStaticContext"), accessFlags := 18, slot := 6, constantValue := 0 }, { name := "$VALUES", type := (.array (.object "com/example/upupa/upupa/expr/BuiltInFunction")), accessFlags := 4122, slot := 10, constantValue := 0 }]
  methods := #[k6m0]
  instanceTypes := #[(.object "java/lang/String"), .int, .int, (.object "java/lang/String"), .int, .int, (.object "com/example/upupa/upupa/expr/BuiltInFunction$BodyWithStaticContext")]
  staticTypes := #[(.object "com/example/upupa/upupa/expr/BuiltInFunction"), (.object "com/example/upupa/upupa/expr/BuiltInFunction"), (.object "com/example/upupa/upupa/expr/BuiltInFunction"), (.object "com/example/upupa/upupa/expr/BuiltInFunction"), (.object "com/example/upupa/upupa/expr/BuiltInFunction"), (.object "com/example/upupa/upupa/expr/BuiltInFunction"), (.object "com/example/upupa/upupa/expr/BuiltInFunction"), (.object "com/example/upupa/upupa/expr/BuiltInFunction"), (.object "com/example/upupa/upupa/expr/BuiltInFunction"), (.object "java/lang/String"), (.array (.object "com/example/upupa/upupa/expr/BuiltInFunction"))]
  resolved := Array.replicate 455 none
  statics := some 0 }

def pool7 : Array CpInfo := pool [(1, u "java/lang/Cloneable"), (0, .class_ 1), (0, u "java/lang/Object"), (0, .class_ 3)] 3

/-- java/lang/Cloneable -/
def k7 : Class := { plain "java/lang/Cloneable" (some 0) with
  accessFlags := 1537
  interfaces := #[]
  cf := some (fileOf pool7 2 #[] #[] 1537 4 #[] #[])
  fields := #[]
  methods := #[]
  instanceTypes := #[]
  staticTypes := #[]
  resolved := Array.replicate 8 none
  statics := none }

/-- the primitive byte -/
def k8 : Class := { plain "byte" none with kind := .primitive 'B', accessFlags := 0x411 }
/-- [B -/
def k9 : Class := { plain "[B" (some 0) with kind := .array 8 .byte, interfaces := #[7, 4], accessFlags := 1041 }

/-- the primitive int -/
def k10 : Class := { plain "int" none with kind := .primitive 'I', accessFlags := 0x411 }
/-- [I -/
def k11 : Class := { plain "[I" (some 0) with kind := .array 10 .int, interfaces := #[7, 4], accessFlags := 1041 }

def heap : Heap := #[{ cls := 6, slots := #[.ref 1, .ref 2, .ref 3, .ref 4, .ref 5, .ref 6, .ref 7, .ref 8, .ref 9, .null, .null], vm := .statics 6 },
  { cls := 6, slots := #[.null, .int 0, .int 0, .null, .int 0, .int 0, .null], vm := .none },
  { cls := 6, slots := #[.null, .int 1, .int 0, .null, .int 0, .int 0, .null], vm := .none },
  { cls := 6, slots := #[.null, .int 2, .int 0, .null, .int 0, .int 0, .null], vm := .none },
  { cls := 6, slots := #[.null, .int 3, .int 0, .null, .int 0, .int 0, .null], vm := .none },
  { cls := 6, slots := #[.null, .int 4, .int 0, .null, .int 0, .int 0, .null], vm := .none },
  { cls := 6, slots := #[.null, .int 5, .int 0, .null, .int 0, .int 0, .null], vm := .none },
  { cls := 6, slots := #[.null, .int 6, .int 0, .null, .int 0, .int 0, .null], vm := .none },
  { cls := 6, slots := #[.null, .int 7, .int 0, .null, .int 0, .int 0, .null], vm := .none },
  { cls := 6, slots := #[.null, .int 8, .int 0, .null, .int 0, .int 0, .null], vm := .none }]
def classes : Array Class := #[k0, k1, k2, k3, k4, k5, k6, k7, k8, k9, k10, k11]
def interned : List (Array UInt16 × Addr) := []
def slotsUsed : Nat := 74
def theMethod : MethodId := ⟨1, 3⟩
def args0 : Array Value := #[.int 5, .int 300, .int 7]
def aboutOver (below : List Frame) : State where
  vm := { classes := classes, interned := interned.toArray }
  heap := heap
  slotsUsed := slotsUsed
  threads := #[{ frames := .invoking theMethod args0 :: below }]
def below0 : List Frame := [.native { method := ⟨0, 0⟩, args := #[] }]
def about1 : State := aboutOver below0
def p0 : Program := .bare "" "" ""
def e0 : Env := launch0.env 0 0 0
theorem w_frames : about1.frames = Frame.invoking theMethod args0 :: below0 := rfl
set_option maxRecDepth 65536 in
theorem w_args : argsFit about1.vm theMethod args0 = true := by decide +kernel
set_option maxRecDepth 65536 in
theorem w_heap : heapFits about1 = true := by decide +kernel
set_option maxRecDepth 65536 in
theorem w_runnable : about1.curStatus? = some .runnable := by decide +kernel
set_option maxRecDepth 65536 in
theorem w_alone : about1.alone = true := by decide +kernel
set_option maxRecDepth 65536 in
theorem w_named : about1.methodNamed? x = some theMethod := by decide +kernel
set_option maxRecDepth 65536 in
theorem w_hears : about1.hears theMethod below0 = true := by decide +kernel
set_option maxRecDepth 65536 in
theorem w_ripe : about1.ripe theMethod args0 below0 = true := by decide +kernel
theorem w_running : about1.status = .running := rfl
set_option maxRecDepth 65536 in
theorem w_room : about1.hasRoom e0.platform room_1 = true :=
  launch0.hasRoom_least _ room_1 (by decide +kernel) (by decide +kernel) (by decide +kernel) (by decide +kernel) (by decide +kernel) (by decide +kernel)
theorem allAtoms_all (ts : List Jvm.Cond) (a : Array Jvm.Value) (st : Jvm.State) : (allAtoms ts).before a st = ts.all (fun c => c.before a st) := by
  induction ts with
  | nil => rfl
  | cons c t ih =>
    show (Jvm.Cond.and c (allAtoms t)).before a st = _
    rw [Jvm.Cond.before_and, ih, List.all_cons]
def words1 : List Jvm.Cond := Jvm.Cond.code x code maxLocals ret :: tables_1
/-- a 'code' word, met by the world's own term for the bytes: nothing is compared byte by byte -/
theorem code_word {y : MethodName} {bytes : ByteArray} {mx : Nat} {rt : Option FieldType} {a : Array Value} {s : State} {m : MethodId} {meth : Method} {c : Code} (h1 : s.methodNamed? y = some m) (h2 : s.vm.method? m = some meth) (h3 : meth.code = some c) (h4 : c.code = bytes)
    (h5 : (c.maxLocals == mx && c.exceptionTable.isEmpty && decide (c.maxStack ≤ mostOperands) && decide (meth.sig.returnType = rt) && !meth.locks && decide (parseMethodDescriptor y.desc = some meth.sig)) = true) : (Jvm.Cond.code y bytes mx rt).before a s = true := by
  simp only [Bool.and_eq_true, beq_iff_eq, Bool.not_eq_true', decide_eq_true_eq] at h5
  obtain ⟨⟨⟨⟨⟨g1, g2⟩, g3⟩, g4⟩, g5⟩, g6⟩ := h5
  simp [Cond.before, Cond.holds, Cond.value, h1, h2, h3, h4, g1, g2, g3, g4, g5, g6]
def isCode : Jvm.Cond → Bool
  | .code _ _ _ _ => true
  | _ => false
theorem all_split {L : List Jvm.Cond} {P : Jvm.Cond → Bool} (h1 : L.all (fun c => isCode c || P c) = true) (h2 : ∀ c ∈ L.filter isCode, P c = true) : L.all P = true := by
  refine List.all_eq_true.mpr fun c hc => ?_
  have h := List.all_eq_true.mp h1 c hc
  rcases Bool.eq_false_or_eq_true (isCode c) with hi | hi
  · exact h2 c (List.mem_filter.mpr ⟨hc, hi⟩)
  · simpa [hi] using h
set_option maxRecDepth 65536 in
theorem w_c0 : (Jvm.Cond.code x code maxLocals ret).before args0 about1 = true := code_word (m := ⟨1, 3⟩) (meth := k1m3) (c := k1c3) (by decide +kernel) rfl rfl rfl (by decide +kernel)
set_option maxRecDepth 65536 in
theorem w_c1 : (Jvm.Cond.code ({ cls := "com/example/upupa/upupa/expr/BuiltInFunctionReadsFocusPinLaw", name := "pick", desc := "(I)Lcom/example/upupa/upupa/expr/BuiltInFunction;" } : Jvm.MethodName) method_2_code (2 : Nat) (Option.some (Jvm.ClassFile.FieldType.object "com/example/upupa/upupa/expr/BuiltInFunction"))).before args0 about1 = true := code_word (m := ⟨1, 1⟩) (meth := k1m1) (c := k1c1) (by decide +kernel) rfl rfl rfl (by decide +kernel)
set_option maxRecDepth 65536 in
theorem w_c2 : (Jvm.Cond.code ({ cls := "com/example/upupa/upupa/expr/BuiltInFunction", name := "readsFocus", desc := "(I)Z" } : Jvm.MethodName) prog_4_method_7_code (2 : Nat) (Option.some Jvm.ClassFile.FieldType.boolean)).before args0 about1 = true := code_word (m := ⟨6, 0⟩) (meth := k6m0) (c := k6c0) (by decide +kernel) rfl rfl rfl (by decide +kernel)
set_option maxRecDepth 65536 in
theorem w_c3 : (Jvm.Cond.code ({ cls := "com/example/upupa/upupa/expr/BuiltInFunctionReadsFocusPinLaw", name := "expected", desc := "(II)Z" } : Jvm.MethodName) method_3_code (3 : Nat) (Option.some Jvm.ClassFile.FieldType.boolean)).before args0 about1 = true := code_word (m := ⟨1, 2⟩) (meth := k1m2) (c := k1c2) (by decide +kernel) rfl rfl rfl (by decide +kernel)
def codes1 : List Jvm.Cond := [Jvm.Cond.code x code maxLocals ret, Jvm.Cond.code ({ cls := "com/example/upupa/upupa/expr/BuiltInFunctionReadsFocusPinLaw", name := "pick", desc := "(I)Lcom/example/upupa/upupa/expr/BuiltInFunction;" } : Jvm.MethodName) method_2_code (2 : Nat) (Option.some (Jvm.ClassFile.FieldType.object "com/example/upupa/upupa/expr/BuiltInFunction")), Jvm.Cond.code ({ cls := "com/example/upupa/upupa/expr/BuiltInFunction", name := "readsFocus", desc := "(I)Z" } : Jvm.MethodName) prog_4_method_7_code (2 : Nat) (Option.some Jvm.ClassFile.FieldType.boolean), Jvm.Cond.code ({ cls := "com/example/upupa/upupa/expr/BuiltInFunctionReadsFocusPinLaw", name := "expected", desc := "(II)Z" } : Jvm.MethodName) method_3_code (3 : Nat) (Option.some Jvm.ClassFile.FieldType.boolean)]
set_option maxRecDepth 65536 in
theorem codes_eq : words1.filter isCode = codes1 := rfl
theorem w_codes : ∀ c ∈ words1.filter isCode, c.before args0 about1 = true := by
  rw [codes_eq]
  intro c hc
  simp only [codes1, List.mem_cons, List.not_mem_nil, or_false] at hc
  rcases hc with rfl | rfl | rfl | rfl
  · exact w_c0
  · exact w_c1
  · exact w_c2
  · exact w_c3
set_option maxRecDepth 65536 in
theorem w_t1 : (words1.take 24).all (fun c => isCode c || c.before args0 about1) = true := by decide +kernel
set_option maxRecDepth 65536 in
theorem w_t2 : (words1.drop 24).all (fun c => isCode c || c.before args0 about1) = true := by decide +kernel
theorem w_tables : (allAtoms (Jvm.Cond.code x code maxLocals ret :: tables_1)).before args0 about1 = true := by
  rw [allAtoms_all]
  show words1.all (fun c => c.before args0 about1) = true
  refine all_split ?_ w_codes
  rw [← List.take_append_drop 24 words1, List.all_append, w_t1, w_t2]
  rfl
set_option maxRecDepth 65536 in
theorem w_case : (Jvm.Cond.and given_1 narrow_1).before args0 about1 = true := by decide +kernel
theorem w_applies : (headSpec (Jvm.Cond.code x code maxLocals ret :: tables_1) room_1).applies x e0.platform about1 = true :=
  (Spec.applies_iff w_frames).mpr ⟨w_running, w_runnable, w_alone, w_named, w_hears, w_ripe, w_room, w_tables⟩
theorem atStart : AtStart classFile x code maxLocals ret World_1 tables_1 room_1 Calls_1 rest_1 Pre_1 launch0 p0 e0 about1 theMethod args0 below0 :=
  ⟨lists_1, trivial, launch0.admits_env _ _ _, launch0.least_env, fairChoices_fair.cas, fairChoices_fair.clock, w_frames, w_args, w_heap, w_applies, trivial, trivial, w_case⟩
end start1
theorem witness_1 : WitnessClaimed_1 := ⟨start1.p0, start1.e0, start1.about1, start1.theMethod, start1.args0, start1.below0, start1.atStart⟩
end Jvm.Pilot.@@N@@
