import JvmDerived
import JvmDerived.Pilot.@@N@@Statement
import JvmDerived.Pilot.@@N@@Code
set_option linter.unusedVariables false
set_option linter.unusedSimpArgs false
@@BLOCK:NumsL.lean.txt@@
namespace Jvm.Pilot.@@N@@
open Jvm Jvm.ClassFile Sem Op Lib Jvm.Free Jvm.Stand Jvm.LawKit Jvm.RoadKit Bundle Jvm.Pilot.@@N@@.Jvm.D
/-! ## The walk layer: where a walk stands (On), what is fixed in it (Cx), the goal (Gl), a method's contract (Con) -/
def On (p : Program) (l : Launch) (e : Env) (R : Room) (s : State) (m : MethodId) (args : Array Value) (below : List Frame) (meth : Method) (c : Code) (n0 : Nat) (T : State) (h : Heap) (k n : Nat) : Prop :=
  ∃ locs, Stand p l e R s m args below meth c T locs k n ∧ Fr n0 locs ∧ T.heap = h
def Cx (p : Program) (s : State) (m : MethodId) (meth : Method) (c : Code) (Z : State) (own name : String) (cod : ByteArray) (maxL : Nat) (ret : Option FieldType) : Prop :=
  p.tables.exec = Jvm.exec ∧ Z.Warmed39 s.vm ∧ c.code = cod ∧ c.maxLocals = maxL ∧ s.vm.findClass own = some m.cls ∧ meth.name = name ∧ meth.sig.returnType = ret ∧ meth.locks = false
def Gl (p : Program) (e : Env) (below : List Frame) (s : State) (R : Room) (n0 : Nat) (Q : Option Value → Heap → Prop) (T : State) (g : JFrame) : Prop :=
  ∃ s₂ o, Steps p.tables e below (T.setTop g) s₂ ∧ s₂.status = .running ∧ Ended s₂ below o ∧ ∃ v L, o = .returned v ∧ (Q v s₂.heap ∧ Fr n0 L) ∧ FrameEnd s o s₂ L R.cells R.slots
def Con (l : Launch) (Z : State) (y : MethodName) (cod : ByteArray) (maxL : Nat) (ret : Option FieldType) (rm : Room) (as : Array Value) (h0 : Heap) (n0 : Nat) (Q : Option Value → Heap → Prop) : Prop :=
  ∀ ws, MetFree l y (head1 (Jvm.Cond.code y cod maxL ret :: ws) rm) (fun a U => a = as ∧ Z.Warmed39 U.vm ∧ U.heap = h0) (fun _ _ _ _ _ => True) (fun _ U o U' => ∃ v L, o = .returned v ∧ (Q v U'.heap ∧ Fr n0 L) ∧ FrameEnd U o U' L rm.cells rm.slots)
section OwnKit
variable {p : Program} {l : Launch} {e : Env} {R : Room} {s : State} {m : MethodId} {args : Array Value} {below : List Frame} {meth : Method} {c : Code} {Z : State} {a0 : Array Value} {n0 : Nat} {T : State} {h h' h0 : Heap} {k n : Nat} {own name : String} {cod : ByteArray} {maxL : Nat} {ret : Option FieldType} {Q : Option Value → Heap → Prop} {pc pc' pf : Nat} {L L' : Array Slot} {r : List Value} {a b : Addr}
theorem Gl.st {T' : State} {g g' : JFrame} (kk : Gl p e below s R n0 Q T' g') (hs : ∀ t, Steps p.tables e below (T'.setTop g') t → Steps p.tables e below (T.setTop g) t) : Gl p e below s R n0 Q T g := by
  obtain ⟨s2, o, h1, q⟩ := kk; exact ⟨s2, o, hs _ h1, q⟩
theorem Con.of {y : MethodName} {rm : Room} {as : Array Value} (hpl : plainFor y = true) {L0 : Array Slot} (hef : ∀ m, entryFrame m as maxL = mkF m 0 L0 [])
    (body : ∀ (p : Program) (e : Env) (s : State) (m : MethodId) (below : List Frame) (meth : Method) (c : Code) (T : State), Cx p s m meth c Z y.cls y.name cod maxL ret → On p l e rm s m as below meth c n0 T h0 0 0 → Gl p e below s rm n0 Q T (mkF m 0 L0 [])) :
    Con l Z y cod maxL ret rm as h0 n0 Q := by
  intro ws
  refine MetFree.of_bodySF hpl hisR ?_
  intro p e s m args below meth c s₁ Bd hml0 hP hK
  obtain ⟨rfl, hZ, hh⟩ := hP
  have e0 : s₁.heap = h0 := by rw [← hh, Bd.state]; rfl
  have q := body p e s m below meth c s₁ ⟨Bd.exec, hZ, Bd.bytes, hml0, findClass_of_methodNamed Bd.named, (name_of_methodNamed Bd.named Bd.method).1, Bd.returns, Bd.notSynchronized⟩ ⟨[], Stand.of_body Bd, Fr.nil n0, e0⟩
  rw [← hef m] at q
  exact q
theorem Con.imp {y : MethodName} {rm : Room} {as : Array Value} {Q' : Option Value → Heap → Prop} (K : Con l Z y cod maxL ret rm as h0 n0 Q) (hq : ∀ v h, Q v h → Q' v h) : Con l Z y cod maxL ret rm as h0 n0 Q' := by
  intro ws p e ha hc hk s m args below hf happ hP hK
  obtain ⟨n, o, h1, h2, h3, v, L, h4, ⟨h5, h6⟩, h7⟩ := K ws p e ha hc hk s m args below hf happ hP hK
  exact ⟨n, o, h1, h2, h3, v, L, h4, ⟨hq _ _ h5, h6⟩, h7⟩
theorem g_iload (C : Cx p s m meth c Z own name cod maxL ret) (S : On p l e R s m args below meth c n0 T h k n) {i : Nat} {v : Int32} (hd : decode cod pc = .ok (.iload i, 2)) (hp : pc + 2 = pc') (hl : L[i]? = some (.val (.int v))) (kk : Gl p e below s R n0 Q T (mkF m pc' L (.int v :: r))) : Gl p e below s R n0 Q T (mkF m pc L r) := by
  obtain ⟨locs, X, -⟩ := S; subst hp
  exact kk.st fun _ q => XS.iload X.here C.1 rfl (hb C.2.2.1 hd) hl q
theorem g_iloadN (C : Cx p s m meth c Z own name cod maxL ret) (S : On p l e R s m args below meth c n0 T h k n) {i : Fin 4} {v : Int32} (hd : decode cod pc = .ok (.iload_n i, 1)) (hp : pc + 1 = pc') (hl : L[i.val]? = some (.val (.int v))) (kk : Gl p e below s R n0 Q T (mkF m pc' L (.int v :: r))) : Gl p e below s R n0 Q T (mkF m pc L r) := by
  obtain ⟨locs, X, -⟩ := S; subst hp
  exact kk.st fun _ q => XS.iloadN X.here C.1 rfl (hb C.2.2.1 hd) hl q
theorem g_istore (C : Cx p s m meth c Z own name cod maxL ret) (S : On p l e R s m args below meth c n0 T h k n) {i : Nat} {v : Int32} (hd : decode cod pc = .ok (.istore i, 2)) (hp : pc + 2 = pc') (hl : storeLocals L i (.int v) = some L') (kk : Gl p e below s R n0 Q T (mkF m pc' L' r)) : Gl p e below s R n0 Q T (mkF m pc L (.int v :: r)) := by
  obtain ⟨locs, X, -⟩ := S; subst hp
  exact kk.st fun _ q => XS.istore X.here C.1 rfl (hb C.2.2.1 hd) rfl hl q
theorem g_istoreN (C : Cx p s m meth c Z own name cod maxL ret) (S : On p l e R s m args below meth c n0 T h k n) {i : Fin 4} {v : Int32} (hd : decode cod pc = .ok (.istore_n i, 1)) (hp : pc + 1 = pc') (hl : storeLocals L i.val (.int v) = some L') (kk : Gl p e below s R n0 Q T (mkF m pc' L' r)) : Gl p e below s R n0 Q T (mkF m pc L (.int v :: r)) := by
  obtain ⟨locs, X, -⟩ := S; subst hp
  exact kk.st fun _ q => XS.istoreN X.here C.1 rfl (hb C.2.2.1 hd) rfl hl q
theorem g_lload (C : Cx p s m meth c Z own name cod maxL ret) (S : On p l e R s m args below meth c n0 T h k n) {i : Nat} {v : Int64} (hd : decode cod pc = .ok (.lload i, 2)) (hp : pc + 2 = pc') (hl : L[i]? = some (.val (.long v))) (kk : Gl p e below s R n0 Q T (mkF m pc' L (.long v :: r))) : Gl p e below s R n0 Q T (mkF m pc L r) := by
  obtain ⟨locs, X, -⟩ := S; subst hp
  exact kk.st fun _ q => XS.lload X.here C.1 rfl (hb C.2.2.1 hd) hl q
theorem g_lloadN (C : Cx p s m meth c Z own name cod maxL ret) (S : On p l e R s m args below meth c n0 T h k n) {i : Fin 4} {v : Int64} (hd : decode cod pc = .ok (.lload_n i, 1)) (hp : pc + 1 = pc') (hl : L[i.val]? = some (.val (.long v))) (kk : Gl p e below s R n0 Q T (mkF m pc' L (.long v :: r))) : Gl p e below s R n0 Q T (mkF m pc L r) := by
  obtain ⟨locs, X, -⟩ := S; subst hp
  exact kk.st fun _ q => XS.lloadN X.here C.1 rfl (hb C.2.2.1 hd) hl q
theorem g_lstore (C : Cx p s m meth c Z own name cod maxL ret) (S : On p l e R s m args below meth c n0 T h k n) {i : Nat} {v : Int64} (hd : decode cod pc = .ok (.lstore i, 2)) (hp : pc + 2 = pc') (hl : storeLocals L i (.long v) = some L') (kk : Gl p e below s R n0 Q T (mkF m pc' L' r)) : Gl p e below s R n0 Q T (mkF m pc L (.long v :: r)) := by
  obtain ⟨locs, X, -⟩ := S; subst hp
  exact kk.st fun _ q => XS.lstore X.here C.1 rfl (hb C.2.2.1 hd) rfl hl q
theorem g_lstoreN (C : Cx p s m meth c Z own name cod maxL ret) (S : On p l e R s m args below meth c n0 T h k n) {i : Fin 4} {v : Int64} (hd : decode cod pc = .ok (.lstore_n i, 1)) (hp : pc + 1 = pc') (hl : storeLocals L i.val (.long v) = some L') (kk : Gl p e below s R n0 Q T (mkF m pc' L' r)) : Gl p e below s R n0 Q T (mkF m pc L (.long v :: r)) := by
  obtain ⟨locs, X, -⟩ := S; subst hp
  exact kk.st fun _ q => XS.lstoreN X.here C.1 rfl (hb C.2.2.1 hd) rfl hl q
theorem g_aload (C : Cx p s m meth c Z own name cod maxL ret) (S : On p l e R s m args below meth c n0 T h k n) {i : Nat} {v : Value} (hd : decode cod pc = .ok (.aload i, 2)) (hp : pc + 2 = pc') (hl : L[i]? = some (.val v)) (hv : v.isRef = true) (kk : Gl p e below s R n0 Q T (mkF m pc' L (v :: r))) : Gl p e below s R n0 Q T (mkF m pc L r) := by
  obtain ⟨locs, X, -⟩ := S; subst hp
  exact kk.st fun _ q => XS.aload X.here C.1 rfl (hb C.2.2.1 hd) hl hv q
theorem g_aloadN (C : Cx p s m meth c Z own name cod maxL ret) (S : On p l e R s m args below meth c n0 T h k n) {i : Fin 4} {v : Value} (hd : decode cod pc = .ok (.aload_n i, 1)) (hp : pc + 1 = pc') (hl : L[i.val]? = some (.val v)) (hv : v.isRef = true) (kk : Gl p e below s R n0 Q T (mkF m pc' L (v :: r))) : Gl p e below s R n0 Q T (mkF m pc L r) := by
  obtain ⟨locs, X, -⟩ := S; subst hp
  exact kk.st fun _ q => XS.aloadN X.here C.1 rfl (hb C.2.2.1 hd) hl hv q
theorem g_astore (C : Cx p s m meth c Z own name cod maxL ret) (S : On p l e R s m args below meth c n0 T h k n) {i : Nat} {v : Value} (hd : decode cod pc = .ok (.astore i, 2)) (hp : pc + 2 = pc') (hv : v.isRef = true) (hl : storeLocals L i v = some L') (kk : Gl p e below s R n0 Q T (mkF m pc' L' r)) : Gl p e below s R n0 Q T (mkF m pc L (v :: r)) := by
  obtain ⟨locs, X, -⟩ := S; subst hp
  exact kk.st fun _ q => XS.astore X.here C.1 rfl (hb C.2.2.1 hd) rfl hv hl q
theorem g_astoreN (C : Cx p s m meth c Z own name cod maxL ret) (S : On p l e R s m args below meth c n0 T h k n) {i : Fin 4} {v : Value} (hd : decode cod pc = .ok (.astore_n i, 1)) (hp : pc + 1 = pc') (hv : v.isRef = true) (hl : storeLocals L i.val v = some L') (kk : Gl p e below s R n0 Q T (mkF m pc' L' r)) : Gl p e below s R n0 Q T (mkF m pc L (v :: r)) := by
  obtain ⟨locs, X, -⟩ := S; subst hp
  exact kk.st fun _ q => XS.astoreN X.here C.1 rfl (hb C.2.2.1 hd) rfl hv hl q
theorem g_iconst (C : Cx p s m meth c Z own name cod maxL ret) (S : On p l e R s m args below meth c n0 T h k n) {i : Int} (v : Int32) (hd : decode cod pc = .ok (.iconst i, 1)) (hp : pc + 1 = pc') (hv : Int32.ofInt i = v) (kk : Gl p e below s R n0 Q T (mkF m pc' L (.int v :: r))) : Gl p e below s R n0 Q T (mkF m pc L r) := by
  obtain ⟨locs, X, -⟩ := S; subst hp hv
  exact kk.st fun _ q => XS.iconst X.here C.1 rfl (hb C.2.2.1 hd) q
theorem g_bipush (C : Cx p s m meth c Z own name cod maxL ret) (S : On p l e R s m args below meth c n0 T h k n) {i : Int} (v : Int32) (hd : decode cod pc = .ok (.bipush i, 2)) (hp : pc + 2 = pc') (hv : (Int8.ofInt i).toInt32 = v) (kk : Gl p e below s R n0 Q T (mkF m pc' L (.int v :: r))) : Gl p e below s R n0 Q T (mkF m pc L r) := by
  obtain ⟨locs, X, -⟩ := S; subst hp hv
  exact kk.st fun _ q => XS.bipush X.here C.1 rfl (hb C.2.2.1 hd) q
theorem g_sipush (C : Cx p s m meth c Z own name cod maxL ret) (S : On p l e R s m args below meth c n0 T h k n) {i : Int} (v : Int32) (hd : decode cod pc = .ok (.sipush i, 3)) (hp : pc + 3 = pc') (hv : (Int16.ofInt i).toInt32 = v) (kk : Gl p e below s R n0 Q T (mkF m pc' L (.int v :: r))) : Gl p e below s R n0 Q T (mkF m pc L r) := by
  obtain ⟨locs, X, -⟩ := S; subst hp hv
  exact kk.st fun _ q => XS.sipush X.here C.1 rfl (hb C.2.2.1 hd) q
theorem g_lconst (C : Cx p s m meth c Z own name cod maxL ret) (S : On p l e R s m args below meth c n0 T h k n) {i : Fin 2} (v : Int64) (hd : decode cod pc = .ok (.lconst i, 1)) (hp : pc + 1 = pc') (hv : Int64.ofNat i = v) (kk : Gl p e below s R n0 Q T (mkF m pc' L (.long v :: r))) : Gl p e below s R n0 Q T (mkF m pc L r) := by
  obtain ⟨locs, X, -⟩ := S; subst hp hv
  exact kk.st fun _ q => XS.lconst X.here C.1 rfl (hb C.2.2.1 hd) q
theorem g_aconst_null (C : Cx p s m meth c Z own name cod maxL ret) (S : On p l e R s m args below meth c n0 T h k n) (hd : decode cod pc = .ok (.aconst_null, 1)) (hp : pc + 1 = pc') (kk : Gl p e below s R n0 Q T (mkF m pc' L (.null :: r))) : Gl p e below s R n0 Q T (mkF m pc L r) := by
  obtain ⟨locs, X, -⟩ := S; subst hp
  exact kk.st fun _ q => XS.aconstNull X.here C.1 rfl (hb C.2.2.1 hd) q
theorem g_iadd (C : Cx p s m meth c Z own name cod maxL ret) (S : On p l e R s m args below meth c n0 T h k n) {x y : Int32} (hd : decode cod pc = .ok (.iadd, 1)) (hp : pc + 1 = pc') (kk : Gl p e below s R n0 Q T (mkF m pc' L (.int (x + y) :: r))) : Gl p e below s R n0 Q T (mkF m pc L (.int y :: .int x :: r)) := by
  obtain ⟨locs, X, -⟩ := S; subst hp
  exact kk.st fun _ q => XS.iadd X.here C.1 rfl (hb C.2.2.1 hd) rfl q
theorem g_isub (C : Cx p s m meth c Z own name cod maxL ret) (S : On p l e R s m args below meth c n0 T h k n) {x y : Int32} (hd : decode cod pc = .ok (.isub, 1)) (hp : pc + 1 = pc') (kk : Gl p e below s R n0 Q T (mkF m pc' L (.int (x - y) :: r))) : Gl p e below s R n0 Q T (mkF m pc L (.int y :: .int x :: r)) := by
  obtain ⟨locs, X, -⟩ := S; subst hp
  exact kk.st fun _ q => XS.isub X.here C.1 rfl (hb C.2.2.1 hd) rfl q
theorem g_imul (C : Cx p s m meth c Z own name cod maxL ret) (S : On p l e R s m args below meth c n0 T h k n) {x y : Int32} (hd : decode cod pc = .ok (.imul, 1)) (hp : pc + 1 = pc') (kk : Gl p e below s R n0 Q T (mkF m pc' L (.int (x * y) :: r))) : Gl p e below s R n0 Q T (mkF m pc L (.int y :: .int x :: r)) := by
  obtain ⟨locs, X, -⟩ := S; subst hp
  exact kk.st fun _ q => XS.imul X.here C.1 rfl (hb C.2.2.1 hd) rfl q
theorem g_iand (C : Cx p s m meth c Z own name cod maxL ret) (S : On p l e R s m args below meth c n0 T h k n) {x y : Int32} (hd : decode cod pc = .ok (.iand, 1)) (hp : pc + 1 = pc') (kk : Gl p e below s R n0 Q T (mkF m pc' L (.int (x &&& y) :: r))) : Gl p e below s R n0 Q T (mkF m pc L (.int y :: .int x :: r)) := by
  obtain ⟨locs, X, -⟩ := S; subst hp
  exact kk.st fun _ q => XS.iand X.here C.1 rfl (hb C.2.2.1 hd) rfl q
theorem g_ior (C : Cx p s m meth c Z own name cod maxL ret) (S : On p l e R s m args below meth c n0 T h k n) {x y : Int32} (hd : decode cod pc = .ok (.ior, 1)) (hp : pc + 1 = pc') (kk : Gl p e below s R n0 Q T (mkF m pc' L (.int (x ||| y) :: r))) : Gl p e below s R n0 Q T (mkF m pc L (.int y :: .int x :: r)) := by
  obtain ⟨locs, X, -⟩ := S; subst hp
  exact kk.st fun _ q => XS.ior X.here C.1 rfl (hb C.2.2.1 hd) rfl q
theorem g_ixor (C : Cx p s m meth c Z own name cod maxL ret) (S : On p l e R s m args below meth c n0 T h k n) {x y : Int32} (hd : decode cod pc = .ok (.ixor, 1)) (hp : pc + 1 = pc') (kk : Gl p e below s R n0 Q T (mkF m pc' L (.int (x ^^^ y) :: r))) : Gl p e below s R n0 Q T (mkF m pc L (.int y :: .int x :: r)) := by
  obtain ⟨locs, X, -⟩ := S; subst hp
  exact kk.st fun _ q => XS.ixor X.here C.1 rfl (hb C.2.2.1 hd) rfl q
theorem g_ladd (C : Cx p s m meth c Z own name cod maxL ret) (S : On p l e R s m args below meth c n0 T h k n) {x y : Int64} (hd : decode cod pc = .ok (.ladd, 1)) (hp : pc + 1 = pc') (kk : Gl p e below s R n0 Q T (mkF m pc' L (.long (x + y) :: r))) : Gl p e below s R n0 Q T (mkF m pc L (.long y :: .long x :: r)) := by
  obtain ⟨locs, X, -⟩ := S; subst hp
  exact kk.st fun _ q => XS.ladd X.here C.1 rfl (hb C.2.2.1 hd) rfl q
theorem g_lsub (C : Cx p s m meth c Z own name cod maxL ret) (S : On p l e R s m args below meth c n0 T h k n) {x y : Int64} (hd : decode cod pc = .ok (.lsub, 1)) (hp : pc + 1 = pc') (kk : Gl p e below s R n0 Q T (mkF m pc' L (.long (x - y) :: r))) : Gl p e below s R n0 Q T (mkF m pc L (.long y :: .long x :: r)) := by
  obtain ⟨locs, X, -⟩ := S; subst hp
  exact kk.st fun _ q => XS.lsub X.here C.1 rfl (hb C.2.2.1 hd) rfl q
theorem g_lmul (C : Cx p s m meth c Z own name cod maxL ret) (S : On p l e R s m args below meth c n0 T h k n) {x y : Int64} (hd : decode cod pc = .ok (.lmul, 1)) (hp : pc + 1 = pc') (kk : Gl p e below s R n0 Q T (mkF m pc' L (.long (x * y) :: r))) : Gl p e below s R n0 Q T (mkF m pc L (.long y :: .long x :: r)) := by
  obtain ⟨locs, X, -⟩ := S; subst hp
  exact kk.st fun _ q => XS.lmul X.here C.1 rfl (hb C.2.2.1 hd) rfl q
theorem g_land (C : Cx p s m meth c Z own name cod maxL ret) (S : On p l e R s m args below meth c n0 T h k n) {x y : Int64} (hd : decode cod pc = .ok (.land, 1)) (hp : pc + 1 = pc') (kk : Gl p e below s R n0 Q T (mkF m pc' L (.long (x &&& y) :: r))) : Gl p e below s R n0 Q T (mkF m pc L (.long y :: .long x :: r)) := by
  obtain ⟨locs, X, -⟩ := S; subst hp
  exact kk.st fun _ q => XS.land X.here C.1 rfl (hb C.2.2.1 hd) rfl q
theorem g_lor (C : Cx p s m meth c Z own name cod maxL ret) (S : On p l e R s m args below meth c n0 T h k n) {x y : Int64} (hd : decode cod pc = .ok (.lor, 1)) (hp : pc + 1 = pc') (kk : Gl p e below s R n0 Q T (mkF m pc' L (.long (x ||| y) :: r))) : Gl p e below s R n0 Q T (mkF m pc L (.long y :: .long x :: r)) := by
  obtain ⟨locs, X, -⟩ := S; subst hp
  exact kk.st fun _ q => XS.lor X.here C.1 rfl (hb C.2.2.1 hd) rfl q
theorem g_lxor (C : Cx p s m meth c Z own name cod maxL ret) (S : On p l e R s m args below meth c n0 T h k n) {x y : Int64} (hd : decode cod pc = .ok (.lxor, 1)) (hp : pc + 1 = pc') (kk : Gl p e below s R n0 Q T (mkF m pc' L (.long (x ^^^ y) :: r))) : Gl p e below s R n0 Q T (mkF m pc L (.long y :: .long x :: r)) := by
  obtain ⟨locs, X, -⟩ := S; subst hp
  exact kk.st fun _ q => XS.lxor X.here C.1 rfl (hb C.2.2.1 hd) rfl q
theorem g_ishl (C : Cx p s m meth c Z own name cod maxL ret) (S : On p l e R s m args below meth c n0 T h k n) {x y : Int32} (hd : decode cod pc = .ok (.ishl, 1)) (hp : pc + 1 = pc') (kk : Gl p e below s R n0 Q T (mkF m pc' L (.int (x <<< (y &&& 31)) :: r))) : Gl p e below s R n0 Q T (mkF m pc L (.int y :: .int x :: r)) := by
  obtain ⟨locs, X, -⟩ := S; subst hp
  exact kk.st fun _ q => XS.ishl X.here C.1 rfl (hb C.2.2.1 hd) rfl q
theorem g_ishr (C : Cx p s m meth c Z own name cod maxL ret) (S : On p l e R s m args below meth c n0 T h k n) {x y : Int32} (hd : decode cod pc = .ok (.ishr, 1)) (hp : pc + 1 = pc') (kk : Gl p e below s R n0 Q T (mkF m pc' L (.int (x >>> (y &&& 31)) :: r))) : Gl p e below s R n0 Q T (mkF m pc L (.int y :: .int x :: r)) := by
  obtain ⟨locs, X, -⟩ := S; subst hp
  exact kk.st fun _ q => XS.ishr X.here C.1 rfl (hb C.2.2.1 hd) rfl q
theorem g_iushr (C : Cx p s m meth c Z own name cod maxL ret) (S : On p l e R s m args below meth c n0 T h k n) {x y : Int32} (hd : decode cod pc = .ok (.iushr, 1)) (hp : pc + 1 = pc') (kk : Gl p e below s R n0 Q T (mkF m pc' L (.int ((x.toUInt32 >>> (y &&& 31).toUInt32).toInt32) :: r))) : Gl p e below s R n0 Q T (mkF m pc L (.int y :: .int x :: r)) := by
  obtain ⟨locs, X, -⟩ := S; subst hp
  exact kk.st fun _ q => XS.iushr X.here C.1 rfl (hb C.2.2.1 hd) rfl q
theorem g_lshl (C : Cx p s m meth c Z own name cod maxL ret) (S : On p l e R s m args below meth c n0 T h k n) {x : Int64} {y : Int32} (hd : decode cod pc = .ok (.lshl, 1)) (hp : pc + 1 = pc') (kk : Gl p e below s R n0 Q T (mkF m pc' L (.long (x <<< (y &&& 0x3f).toInt64) :: r))) : Gl p e below s R n0 Q T (mkF m pc L (.int y :: .long x :: r)) := by
  obtain ⟨locs, X, -⟩ := S; subst hp
  exact kk.st fun _ q => XS.lshl X.here C.1 rfl (hb C.2.2.1 hd) rfl q
theorem g_lshr (C : Cx p s m meth c Z own name cod maxL ret) (S : On p l e R s m args below meth c n0 T h k n) {x : Int64} {y : Int32} (hd : decode cod pc = .ok (.lshr, 1)) (hp : pc + 1 = pc') (kk : Gl p e below s R n0 Q T (mkF m pc' L (.long (x >>> (y &&& 0x3f).toInt64) :: r))) : Gl p e below s R n0 Q T (mkF m pc L (.int y :: .long x :: r)) := by
  obtain ⟨locs, X, -⟩ := S; subst hp
  exact kk.st fun _ q => XS.lshr X.here C.1 rfl (hb C.2.2.1 hd) rfl q
theorem g_lushr (C : Cx p s m meth c Z own name cod maxL ret) (S : On p l e R s m args below meth c n0 T h k n) {x : Int64} {y : Int32} (hd : decode cod pc = .ok (.lushr, 1)) (hp : pc + 1 = pc') (kk : Gl p e below s R n0 Q T (mkF m pc' L (.long ((x.toUInt64 >>> (y &&& 0x3f).toInt64.toUInt64).toInt64) :: r))) : Gl p e below s R n0 Q T (mkF m pc L (.int y :: .long x :: r)) := by
  obtain ⟨locs, X, -⟩ := S; subst hp
  exact kk.st fun _ q => XS.lushr X.here C.1 rfl (hb C.2.2.1 hd) rfl q
theorem g_i2l (C : Cx p s m meth c Z own name cod maxL ret) (S : On p l e R s m args below meth c n0 T h k n) {x : Int32} (hd : decode cod pc = .ok (.i2l, 1)) (hp : pc + 1 = pc') (kk : Gl p e below s R n0 Q T (mkF m pc' L (.long (x.toInt64) :: r))) : Gl p e below s R n0 Q T (mkF m pc L (.int x :: r)) := by
  obtain ⟨locs, X, -⟩ := S; subst hp
  exact kk.st fun _ q => XS.i2l X.here C.1 rfl (hb C.2.2.1 hd) rfl q
theorem g_l2i (C : Cx p s m meth c Z own name cod maxL ret) (S : On p l e R s m args below meth c n0 T h k n) {x : Int64} (hd : decode cod pc = .ok (.l2i, 1)) (hp : pc + 1 = pc') (kk : Gl p e below s R n0 Q T (mkF m pc' L (.int (x.toInt32) :: r))) : Gl p e below s R n0 Q T (mkF m pc L (.long x :: r)) := by
  obtain ⟨locs, X, -⟩ := S; subst hp
  exact kk.st fun _ q => XS.l2i X.here C.1 rfl (hb C.2.2.1 hd) rfl q
theorem g_i2b (C : Cx p s m meth c Z own name cod maxL ret) (S : On p l e R s m args below meth c n0 T h k n) {x : Int32} (hd : decode cod pc = .ok (.i2b, 1)) (hp : pc + 1 = pc') (kk : Gl p e below s R n0 Q T (mkF m pc' L (.int (x.toInt8.toInt32) :: r))) : Gl p e below s R n0 Q T (mkF m pc L (.int x :: r)) := by
  obtain ⟨locs, X, -⟩ := S; subst hp
  exact kk.st fun _ q => XS.i2b X.here C.1 rfl (hb C.2.2.1 hd) rfl q
theorem g_i2c (C : Cx p s m meth c Z own name cod maxL ret) (S : On p l e R s m args below meth c n0 T h k n) {x : Int32} (hd : decode cod pc = .ok (.i2c, 1)) (hp : pc + 1 = pc') (kk : Gl p e below s R n0 Q T (mkF m pc' L (.int (x.toUInt32.toUInt16.toUInt32.toInt32) :: r))) : Gl p e below s R n0 Q T (mkF m pc L (.int x :: r)) := by
  obtain ⟨locs, X, -⟩ := S; subst hp
  exact kk.st fun _ q => XS.i2c X.here C.1 rfl (hb C.2.2.1 hd) rfl q
theorem g_i2s (C : Cx p s m meth c Z own name cod maxL ret) (S : On p l e R s m args below meth c n0 T h k n) {x : Int32} (hd : decode cod pc = .ok (.i2s, 1)) (hp : pc + 1 = pc') (kk : Gl p e below s R n0 Q T (mkF m pc' L (.int (x.toInt16.toInt32) :: r))) : Gl p e below s R n0 Q T (mkF m pc L (.int x :: r)) := by
  obtain ⟨locs, X, -⟩ := S; subst hp
  exact kk.st fun _ q => XS.i2s X.here C.1 rfl (hb C.2.2.1 hd) rfl q
theorem g_lneg (C : Cx p s m meth c Z own name cod maxL ret) (S : On p l e R s m args below meth c n0 T h k n) {x : Int64} (hd : decode cod pc = .ok (.lneg, 1)) (hp : pc + 1 = pc') (kk : Gl p e below s R n0 Q T (mkF m pc' L (.long (-x) :: r))) : Gl p e below s R n0 Q T (mkF m pc L (.long x :: r)) := by
  obtain ⟨locs, X, -⟩ := S; subst hp
  exact kk.st fun _ q => XS.lneg X.here C.1 rfl (hb C.2.2.1 hd) rfl q
theorem g_ineg (C : Cx p s m meth c Z own name cod maxL ret) (S : On p l e R s m args below meth c n0 T h k n) {x : Int32} (hd : decode cod pc = .ok (.ineg, 1)) (hp : pc + 1 = pc') (kk : Gl p e below s R n0 Q T (mkF m pc' L (.int (-x) :: r))) : Gl p e below s R n0 Q T (mkF m pc L (.int x :: r)) := by
  obtain ⟨locs, X, -⟩ := S; subst hp
  exact kk.st fun _ q => XS.ineg X.here C.1 rfl (hb C.2.2.1 hd) rfl q
theorem g_irem (C : Cx p s m meth c Z own name cod maxL ret) (S : On p l e R s m args below meth c n0 T h k n) {x y : Int32} (hd : decode cod pc = .ok (.irem, 1)) (hp : pc + 1 = pc') (hy : y ≠ 0) (kk : Gl p e below s R n0 Q T (mkF m pc' L (.int (x % y) :: r))) : Gl p e below s R n0 Q T (mkF m pc L (.int y :: .int x :: r)) := by
  obtain ⟨locs, X, -⟩ := S; subst hp
  exact kk.st fun _ q => iremM X C.1 rfl (hb C.2.2.1 hd) rfl hy q
theorem g_idiv (C : Cx p s m meth c Z own name cod maxL ret) (S : On p l e R s m args below meth c n0 T h k n) {x y : Int32} (hd : decode cod pc = .ok (.idiv, 1)) (hp : pc + 1 = pc') (hy : y ≠ 0) (kk : Gl p e below s R n0 Q T (mkF m pc' L (.int (x / y) :: r))) : Gl p e below s R n0 Q T (mkF m pc L (.int y :: .int x :: r)) := by
  obtain ⟨locs, X, -⟩ := S; subst hp
  exact kk.st fun _ q => XS.idiv X.here C.1 rfl (hb C.2.2.1 hd) rfl hy q
theorem g_lcmp (C : Cx p s m meth c Z own name cod maxL ret) (S : On p l e R s m args below meth c n0 T h k n) {x y : Int64} (hd : decode cod pc = .ok (.lcmp, 1)) (hp : pc + 1 = pc') (kk : Gl p e below s R n0 Q T (mkF m pc' L (.int (lcmpW x y) :: r))) : Gl p e below s R n0 Q T (mkF m pc L (.long y :: .long x :: r)) := by
  obtain ⟨locs, X, -⟩ := S; subst hp
  exact kk.st fun _ q => XS.lcmp X.here C.1 rfl (hb C.2.2.1 hd) rfl q
theorem g_dup (C : Cx p s m meth c Z own name cod maxL ret) (S : On p l e R s m args below meth c n0 T h k n) {x : Value} (hd : decode cod pc = .ok (.dup, 1)) (hp : pc + 1 = pc') (hc : x.category = 1) (kk : Gl p e below s R n0 Q T (mkF m pc' L (x :: x :: r))) : Gl p e below s R n0 Q T (mkF m pc L (x :: r)) := by
  obtain ⟨locs, X, -⟩ := S; subst hp
  exact kk.st fun _ q => XS.dup X.here C.1 rfl (hb C.2.2.1 hd) rfl hc q
theorem g_pop (C : Cx p s m meth c Z own name cod maxL ret) (S : On p l e R s m args below meth c n0 T h k n) {x : Value} (hd : decode cod pc = .ok (.pop, 1)) (hp : pc + 1 = pc') (hc : x.category = 1) (kk : Gl p e below s R n0 Q T (mkF m pc' L r)) : Gl p e below s R n0 Q T (mkF m pc L (x :: r)) := by
  obtain ⟨locs, X, -⟩ := S; subst hp
  exact kk.st fun _ q => XS.pop X.here C.1 rfl (hb C.2.2.1 hd) rfl hc q
theorem g_dup_x1 (C : Cx p s m meth c Z own name cod maxL ret) (S : On p l e R s m args below meth c n0 T h k n) {x y : Value} (hd : decode cod pc = .ok (.dup_x1, 1)) (hp : pc + 1 = pc') (hc : x.category = 1) (hc2 : y.category = 1) (kk : Gl p e below s R n0 Q T (mkF m pc' L (x :: y :: x :: r))) : Gl p e below s R n0 Q T (mkF m pc L (x :: y :: r)) := by
  obtain ⟨locs, X, -⟩ := S; subst hp
  exact kk.st fun _ q => XS.dupX1 X.here C.1 rfl (hb C.2.2.1 hd) rfl hc hc2 q
theorem g_dup2 (C : Cx p s m meth c Z own name cod maxL ret) (S : On p l e R s m args below meth c n0 T h k n) {x y : Value} (hd : decode cod pc = .ok (.dup2, 1)) (hp : pc + 1 = pc') (hc : x.category = 1) (hc2 : y.category = 1) (kk : Gl p e below s R n0 Q T (mkF m pc' L (x :: y :: x :: y :: r))) : Gl p e below s R n0 Q T (mkF m pc L (x :: y :: r)) := by
  obtain ⟨locs, X, -⟩ := S; subst hp
  exact kk.st fun _ q => XT.dup2 X.here C.1 rfl (hb C.2.2.1 hd) rfl hc hc2 q
theorem g_iinc (C : Cx p s m meth c Z own name cod maxL ret) (S : On p l e R s m args below meth c n0 T h k n) {i : Nat} {cst : Int} {x : Int32} (v : Int32) (hd : decode cod pc = .ok (.iinc i cst, 3)) (hp : pc + 3 = pc') (hv : Int32.ofInt cst = v) (hl : L[i]? = some (.val (.int x))) (hl' : storeLocals L i (.int (x + v)) = some L') (kk : Gl p e below s R n0 Q T (mkF m pc' L' r)) : Gl p e below s R n0 Q T (mkF m pc L r) := by
  obtain ⟨locs, X, -⟩ := S; subst hp hv
  exact kk.st fun _ q => XS.iinc X.here C.1 rfl (hb C.2.2.1 hd) hl hl' q
theorem g_goto (C : Cx p s m meth c Z own name cod maxL ret) (S : On p l e R s m args below meth c n0 T h k n) {o : Int} (hd : decode cod pc = .ok (.goto o, 3)) (ho : 0 ≤ (pc : Int) + o) (hp : ((pc : Int) + o).toNat = pc') (kk : Gl p e below s R n0 Q T (mkF m pc' L r)) : Gl p e below s R n0 Q T (mkF m pc L r) := by
  obtain ⟨locs, X, -⟩ := S
  exact kk.st fun _ q => XS.goto X.here C.1 rfl rfl (hb C.2.2.1 hd) ho hp q
theorem g_icmp_lt (C : Cx p s m meth c Z own name cod maxL ret) (S : On p l e R s m args below meth c n0 T h k n) {x y : Int32} {o : Int} (hd : decode cod pc = .ok (.if_icmp .lt o, 3)) (ho : 0 ≤ (pc : Int) + o) (hp : ((pc : Int) + o).toNat = pc') (hq : pc + 3 = pf) (ht : x < y → Gl p e below s R n0 Q T (mkF m pc' L r)) (hf : ¬ x < y → Gl p e below s R n0 Q T (mkF m pf L r)) : Gl p e below s R n0 Q T (mkF m pc L (.int y :: .int x :: r)) := by
  obtain ⟨locs, X, -⟩ := S; subst hq
  by_cases q : x < y
  · exact (ht q).st fun _ z => XS.icmpYes X.here C.1 rfl rfl (hb C.2.2.1 hd) rfl ((tlt q).1) ho hp z
  · exact (hf q).st fun _ z => XS.icmpNo X.here C.1 rfl (hb C.2.2.1 hd) rfl ((flt q).1) z
theorem g_if_lt (C : Cx p s m meth c Z own name cod maxL ret) (S : On p l e R s m args below meth c n0 T h k n) {x : Int32} {o : Int} (hd : decode cod pc = .ok (.ifCond .lt o, 3)) (ho : 0 ≤ (pc : Int) + o) (hp : ((pc : Int) + o).toNat = pc') (hq : pc + 3 = pf) (ht : x < (0 : Int32) → Gl p e below s R n0 Q T (mkF m pc' L r)) (hf : ¬ x < (0 : Int32) → Gl p e below s R n0 Q T (mkF m pf L r)) : Gl p e below s R n0 Q T (mkF m pc L (.int x :: r)) := by
  obtain ⟨locs, X, -⟩ := S; subst hq
  by_cases q : x < (0 : Int32)
  · exact (ht q).st fun _ z => XS.ifYes X.here C.1 rfl rfl (hb C.2.2.1 hd) rfl ((if0 _ _).trans (tlt q).1) ho hp z
  · exact (hf q).st fun _ z => XS.ifNo X.here C.1 rfl (hb C.2.2.1 hd) rfl ((if0 _ _).trans (flt q).1) z
theorem g_lif_lt (C : Cx p s m meth c Z own name cod maxL ret) (S : On p l e R s m args below meth c n0 T h k n) {x y : Int64} {o : Int} (hd : decode cod pc = .ok (.ifCond .lt o, 3)) (ho : 0 ≤ (pc : Int) + o) (hp : ((pc : Int) + o).toNat = pc') (hq : pc + 3 = pf) (ht : x < y → Gl p e below s R n0 Q T (mkF m pc' L r)) (hf : ¬ x < y → Gl p e below s R n0 Q T (mkF m pf L r)) : Gl p e below s R n0 Q T (mkF m pc L (.int (lcmpW x y) :: r)) := by
  obtain ⟨locs, X, -⟩ := S; subst hq
  by_cases q : x < y
  · exact (ht q).st fun _ z => XS.ifYes X.here C.1 rfl rfl (hb C.2.2.1 hd) rfl ((if0 _ _).trans (tlt ((lw_lt x y).mpr q)).1) ho hp z
  · exact (hf q).st fun _ z => XS.ifNo X.here C.1 rfl (hb C.2.2.1 hd) rfl ((if0 _ _).trans (flt (fun z => q ((lw_lt x y).mp z))).1) z
theorem g_icmp_ge (C : Cx p s m meth c Z own name cod maxL ret) (S : On p l e R s m args below meth c n0 T h k n) {x y : Int32} {o : Int} (hd : decode cod pc = .ok (.if_icmp .ge o, 3)) (ho : 0 ≤ (pc : Int) + o) (hp : ((pc : Int) + o).toNat = pc') (hq : pc + 3 = pf) (ht : ¬ x < y → Gl p e below s R n0 Q T (mkF m pc' L r)) (hf : x < y → Gl p e below s R n0 Q T (mkF m pf L r)) : Gl p e below s R n0 Q T (mkF m pc L (.int y :: .int x :: r)) := by
  obtain ⟨locs, X, -⟩ := S; subst hq
  by_cases q : x < y
  · exact (hf q).st fun _ z => XS.icmpNo X.here C.1 rfl (hb C.2.2.1 hd) rfl ((tlt q).2.1) z
  · exact (ht q).st fun _ z => XS.icmpYes X.here C.1 rfl rfl (hb C.2.2.1 hd) rfl ((flt q).2.1) ho hp z
theorem g_if_ge (C : Cx p s m meth c Z own name cod maxL ret) (S : On p l e R s m args below meth c n0 T h k n) {x : Int32} {o : Int} (hd : decode cod pc = .ok (.ifCond .ge o, 3)) (ho : 0 ≤ (pc : Int) + o) (hp : ((pc : Int) + o).toNat = pc') (hq : pc + 3 = pf) (ht : ¬ x < (0 : Int32) → Gl p e below s R n0 Q T (mkF m pc' L r)) (hf : x < (0 : Int32) → Gl p e below s R n0 Q T (mkF m pf L r)) : Gl p e below s R n0 Q T (mkF m pc L (.int x :: r)) := by
  obtain ⟨locs, X, -⟩ := S; subst hq
  by_cases q : x < (0 : Int32)
  · exact (hf q).st fun _ z => XS.ifNo X.here C.1 rfl (hb C.2.2.1 hd) rfl ((if0 _ _).trans (tlt q).2.1) z
  · exact (ht q).st fun _ z => XS.ifYes X.here C.1 rfl rfl (hb C.2.2.1 hd) rfl ((if0 _ _).trans (flt q).2.1) ho hp z
theorem g_lif_ge (C : Cx p s m meth c Z own name cod maxL ret) (S : On p l e R s m args below meth c n0 T h k n) {x y : Int64} {o : Int} (hd : decode cod pc = .ok (.ifCond .ge o, 3)) (ho : 0 ≤ (pc : Int) + o) (hp : ((pc : Int) + o).toNat = pc') (hq : pc + 3 = pf) (ht : ¬ x < y → Gl p e below s R n0 Q T (mkF m pc' L r)) (hf : x < y → Gl p e below s R n0 Q T (mkF m pf L r)) : Gl p e below s R n0 Q T (mkF m pc L (.int (lcmpW x y) :: r)) := by
  obtain ⟨locs, X, -⟩ := S; subst hq
  by_cases q : x < y
  · exact (hf q).st fun _ z => XS.ifNo X.here C.1 rfl (hb C.2.2.1 hd) rfl ((if0 _ _).trans (tlt ((lw_lt x y).mpr q)).2.1) z
  · exact (ht q).st fun _ z => XS.ifYes X.here C.1 rfl rfl (hb C.2.2.1 hd) rfl ((if0 _ _).trans (flt (fun z => q ((lw_lt x y).mp z))).2.1) ho hp z
theorem g_icmp_gt (C : Cx p s m meth c Z own name cod maxL ret) (S : On p l e R s m args below meth c n0 T h k n) {x y : Int32} {o : Int} (hd : decode cod pc = .ok (.if_icmp .gt o, 3)) (ho : 0 ≤ (pc : Int) + o) (hp : ((pc : Int) + o).toNat = pc') (hq : pc + 3 = pf) (ht : y < x → Gl p e below s R n0 Q T (mkF m pc' L r)) (hf : ¬ y < x → Gl p e below s R n0 Q T (mkF m pf L r)) : Gl p e below s R n0 Q T (mkF m pc L (.int y :: .int x :: r)) := by
  obtain ⟨locs, X, -⟩ := S; subst hq
  by_cases q : y < x
  · exact (ht q).st fun _ z => XS.icmpYes X.here C.1 rfl rfl (hb C.2.2.1 hd) rfl ((tlt q).2.2.1) ho hp z
  · exact (hf q).st fun _ z => XS.icmpNo X.here C.1 rfl (hb C.2.2.1 hd) rfl ((flt q).2.2.1) z
theorem g_if_gt (C : Cx p s m meth c Z own name cod maxL ret) (S : On p l e R s m args below meth c n0 T h k n) {x : Int32} {o : Int} (hd : decode cod pc = .ok (.ifCond .gt o, 3)) (ho : 0 ≤ (pc : Int) + o) (hp : ((pc : Int) + o).toNat = pc') (hq : pc + 3 = pf) (ht : (0 : Int32) < x → Gl p e below s R n0 Q T (mkF m pc' L r)) (hf : ¬ (0 : Int32) < x → Gl p e below s R n0 Q T (mkF m pf L r)) : Gl p e below s R n0 Q T (mkF m pc L (.int x :: r)) := by
  obtain ⟨locs, X, -⟩ := S; subst hq
  by_cases q : (0 : Int32) < x
  · exact (ht q).st fun _ z => XS.ifYes X.here C.1 rfl rfl (hb C.2.2.1 hd) rfl ((if0 _ _).trans (tlt q).2.2.1) ho hp z
  · exact (hf q).st fun _ z => XS.ifNo X.here C.1 rfl (hb C.2.2.1 hd) rfl ((if0 _ _).trans (flt q).2.2.1) z
theorem g_lif_gt (C : Cx p s m meth c Z own name cod maxL ret) (S : On p l e R s m args below meth c n0 T h k n) {x y : Int64} {o : Int} (hd : decode cod pc = .ok (.ifCond .gt o, 3)) (ho : 0 ≤ (pc : Int) + o) (hp : ((pc : Int) + o).toNat = pc') (hq : pc + 3 = pf) (ht : y < x → Gl p e below s R n0 Q T (mkF m pc' L r)) (hf : ¬ y < x → Gl p e below s R n0 Q T (mkF m pf L r)) : Gl p e below s R n0 Q T (mkF m pc L (.int (lcmpW x y) :: r)) := by
  obtain ⟨locs, X, -⟩ := S; subst hq
  by_cases q : y < x
  · exact (ht q).st fun _ z => XS.ifYes X.here C.1 rfl rfl (hb C.2.2.1 hd) rfl ((if0 _ _).trans (tlt ((lw_gt x y).mpr q)).2.2.1) ho hp z
  · exact (hf q).st fun _ z => XS.ifNo X.here C.1 rfl (hb C.2.2.1 hd) rfl ((if0 _ _).trans (flt (fun z => q ((lw_gt x y).mp z))).2.2.1) z
theorem g_icmp_le (C : Cx p s m meth c Z own name cod maxL ret) (S : On p l e R s m args below meth c n0 T h k n) {x y : Int32} {o : Int} (hd : decode cod pc = .ok (.if_icmp .le o, 3)) (ho : 0 ≤ (pc : Int) + o) (hp : ((pc : Int) + o).toNat = pc') (hq : pc + 3 = pf) (ht : ¬ y < x → Gl p e below s R n0 Q T (mkF m pc' L r)) (hf : y < x → Gl p e below s R n0 Q T (mkF m pf L r)) : Gl p e below s R n0 Q T (mkF m pc L (.int y :: .int x :: r)) := by
  obtain ⟨locs, X, -⟩ := S; subst hq
  by_cases q : y < x
  · exact (hf q).st fun _ z => XS.icmpNo X.here C.1 rfl (hb C.2.2.1 hd) rfl ((tlt q).2.2.2) z
  · exact (ht q).st fun _ z => XS.icmpYes X.here C.1 rfl rfl (hb C.2.2.1 hd) rfl ((flt q).2.2.2) ho hp z
theorem g_if_le (C : Cx p s m meth c Z own name cod maxL ret) (S : On p l e R s m args below meth c n0 T h k n) {x : Int32} {o : Int} (hd : decode cod pc = .ok (.ifCond .le o, 3)) (ho : 0 ≤ (pc : Int) + o) (hp : ((pc : Int) + o).toNat = pc') (hq : pc + 3 = pf) (ht : ¬ (0 : Int32) < x → Gl p e below s R n0 Q T (mkF m pc' L r)) (hf : (0 : Int32) < x → Gl p e below s R n0 Q T (mkF m pf L r)) : Gl p e below s R n0 Q T (mkF m pc L (.int x :: r)) := by
  obtain ⟨locs, X, -⟩ := S; subst hq
  by_cases q : (0 : Int32) < x
  · exact (hf q).st fun _ z => XS.ifNo X.here C.1 rfl (hb C.2.2.1 hd) rfl ((if0 _ _).trans (tlt q).2.2.2) z
  · exact (ht q).st fun _ z => XS.ifYes X.here C.1 rfl rfl (hb C.2.2.1 hd) rfl ((if0 _ _).trans (flt q).2.2.2) ho hp z
theorem g_lif_le (C : Cx p s m meth c Z own name cod maxL ret) (S : On p l e R s m args below meth c n0 T h k n) {x y : Int64} {o : Int} (hd : decode cod pc = .ok (.ifCond .le o, 3)) (ho : 0 ≤ (pc : Int) + o) (hp : ((pc : Int) + o).toNat = pc') (hq : pc + 3 = pf) (ht : ¬ y < x → Gl p e below s R n0 Q T (mkF m pc' L r)) (hf : y < x → Gl p e below s R n0 Q T (mkF m pf L r)) : Gl p e below s R n0 Q T (mkF m pc L (.int (lcmpW x y) :: r)) := by
  obtain ⟨locs, X, -⟩ := S; subst hq
  by_cases q : y < x
  · exact (hf q).st fun _ z => XS.ifNo X.here C.1 rfl (hb C.2.2.1 hd) rfl ((if0 _ _).trans (tlt ((lw_gt x y).mpr q)).2.2.2) z
  · exact (ht q).st fun _ z => XS.ifYes X.here C.1 rfl rfl (hb C.2.2.1 hd) rfl ((if0 _ _).trans (flt (fun z => q ((lw_gt x y).mp z))).2.2.2) ho hp z
theorem g_icmp_eq (C : Cx p s m meth c Z own name cod maxL ret) (S : On p l e R s m args below meth c n0 T h k n) {x y : Int32} {o : Int} (hd : decode cod pc = .ok (.if_icmp .eq o, 3)) (ho : 0 ≤ (pc : Int) + o) (hp : ((pc : Int) + o).toNat = pc') (hq : pc + 3 = pf) (ht : x = y → Gl p e below s R n0 Q T (mkF m pc' L r)) (hf : ¬ x = y → Gl p e below s R n0 Q T (mkF m pf L r)) : Gl p e below s R n0 Q T (mkF m pc L (.int y :: .int x :: r)) := by
  obtain ⟨locs, X, -⟩ := S; subst hq
  by_cases q : x = y
  · exact (ht q).st fun _ z => XS.icmpYes X.here C.1 rfl rfl (hb C.2.2.1 hd) rfl ((teq q).1) ho hp z
  · exact (hf q).st fun _ z => XS.icmpNo X.here C.1 rfl (hb C.2.2.1 hd) rfl ((feq q).1) z
theorem g_if_eq (C : Cx p s m meth c Z own name cod maxL ret) (S : On p l e R s m args below meth c n0 T h k n) {x : Int32} {o : Int} (hd : decode cod pc = .ok (.ifCond .eq o, 3)) (ho : 0 ≤ (pc : Int) + o) (hp : ((pc : Int) + o).toNat = pc') (hq : pc + 3 = pf) (ht : x = (0 : Int32) → Gl p e below s R n0 Q T (mkF m pc' L r)) (hf : ¬ x = (0 : Int32) → Gl p e below s R n0 Q T (mkF m pf L r)) : Gl p e below s R n0 Q T (mkF m pc L (.int x :: r)) := by
  obtain ⟨locs, X, -⟩ := S; subst hq
  by_cases q : x = (0 : Int32)
  · exact (ht q).st fun _ z => XS.ifYes X.here C.1 rfl rfl (hb C.2.2.1 hd) rfl ((if0 _ _).trans (teq q).1) ho hp z
  · exact (hf q).st fun _ z => XS.ifNo X.here C.1 rfl (hb C.2.2.1 hd) rfl ((if0 _ _).trans (feq q).1) z
theorem g_lif_eq (C : Cx p s m meth c Z own name cod maxL ret) (S : On p l e R s m args below meth c n0 T h k n) {x y : Int64} {o : Int} (hd : decode cod pc = .ok (.ifCond .eq o, 3)) (ho : 0 ≤ (pc : Int) + o) (hp : ((pc : Int) + o).toNat = pc') (hq : pc + 3 = pf) (ht : x = y → Gl p e below s R n0 Q T (mkF m pc' L r)) (hf : ¬ x = y → Gl p e below s R n0 Q T (mkF m pf L r)) : Gl p e below s R n0 Q T (mkF m pc L (.int (lcmpW x y) :: r)) := by
  obtain ⟨locs, X, -⟩ := S; subst hq
  by_cases q : x = y
  · exact (ht q).st fun _ z => XS.ifYes X.here C.1 rfl rfl (hb C.2.2.1 hd) rfl ((if0 _ _).trans (teq ((lw_eq x y).mpr q)).1) ho hp z
  · exact (hf q).st fun _ z => XS.ifNo X.here C.1 rfl (hb C.2.2.1 hd) rfl ((if0 _ _).trans (feq (fun z => q ((lw_eq x y).mp z))).1) z
theorem g_icmp_ne (C : Cx p s m meth c Z own name cod maxL ret) (S : On p l e R s m args below meth c n0 T h k n) {x y : Int32} {o : Int} (hd : decode cod pc = .ok (.if_icmp .ne o, 3)) (ho : 0 ≤ (pc : Int) + o) (hp : ((pc : Int) + o).toNat = pc') (hq : pc + 3 = pf) (ht : ¬ x = y → Gl p e below s R n0 Q T (mkF m pc' L r)) (hf : x = y → Gl p e below s R n0 Q T (mkF m pf L r)) : Gl p e below s R n0 Q T (mkF m pc L (.int y :: .int x :: r)) := by
  obtain ⟨locs, X, -⟩ := S; subst hq
  by_cases q : x = y
  · exact (hf q).st fun _ z => XS.icmpNo X.here C.1 rfl (hb C.2.2.1 hd) rfl ((teq q).2) z
  · exact (ht q).st fun _ z => XS.icmpYes X.here C.1 rfl rfl (hb C.2.2.1 hd) rfl ((feq q).2) ho hp z
theorem g_if_ne (C : Cx p s m meth c Z own name cod maxL ret) (S : On p l e R s m args below meth c n0 T h k n) {x : Int32} {o : Int} (hd : decode cod pc = .ok (.ifCond .ne o, 3)) (ho : 0 ≤ (pc : Int) + o) (hp : ((pc : Int) + o).toNat = pc') (hq : pc + 3 = pf) (ht : ¬ x = (0 : Int32) → Gl p e below s R n0 Q T (mkF m pc' L r)) (hf : x = (0 : Int32) → Gl p e below s R n0 Q T (mkF m pf L r)) : Gl p e below s R n0 Q T (mkF m pc L (.int x :: r)) := by
  obtain ⟨locs, X, -⟩ := S; subst hq
  by_cases q : x = (0 : Int32)
  · exact (hf q).st fun _ z => XS.ifNo X.here C.1 rfl (hb C.2.2.1 hd) rfl ((if0 _ _).trans (teq q).2) z
  · exact (ht q).st fun _ z => XS.ifYes X.here C.1 rfl rfl (hb C.2.2.1 hd) rfl ((if0 _ _).trans (feq q).2) ho hp z
theorem g_lif_ne (C : Cx p s m meth c Z own name cod maxL ret) (S : On p l e R s m args below meth c n0 T h k n) {x y : Int64} {o : Int} (hd : decode cod pc = .ok (.ifCond .ne o, 3)) (ho : 0 ≤ (pc : Int) + o) (hp : ((pc : Int) + o).toNat = pc') (hq : pc + 3 = pf) (ht : ¬ x = y → Gl p e below s R n0 Q T (mkF m pc' L r)) (hf : x = y → Gl p e below s R n0 Q T (mkF m pf L r)) : Gl p e below s R n0 Q T (mkF m pc L (.int (lcmpW x y) :: r)) := by
  obtain ⟨locs, X, -⟩ := S; subst hq
  by_cases q : x = y
  · exact (hf q).st fun _ z => XS.ifNo X.here C.1 rfl (hb C.2.2.1 hd) rfl ((if0 _ _).trans (teq ((lw_eq x y).mpr q)).2) z
  · exact (ht q).st fun _ z => XS.ifYes X.here C.1 rfl rfl (hb C.2.2.1 hd) rfl ((if0 _ _).trans (feq (fun z => q ((lw_eq x y).mp z))).2) ho hp z
theorem g_ifnonnull_ref (C : Cx p s m meth c Z own name cod maxL ret) (S : On p l e R s m args below meth c n0 T h k n) {o : Int} (hd : decode cod pc = .ok (.ifnonnull o, 3)) (ho : 0 ≤ (pc : Int) + o) (hp : ((pc : Int) + o).toNat = pc') (kk : Gl p e below s R n0 Q T (mkF m pc' L r)) : Gl p e below s R n0 Q T (mkF m pc L (.ref a :: r)) := by
  obtain ⟨locs, X, -⟩ := S
  exact kk.st fun _ q => XS.ifnonnullYes X.here C.1 rfl rfl (hb C.2.2.1 hd) rfl ho hp q
theorem g_ifnonnull_null (C : Cx p s m meth c Z own name cod maxL ret) (S : On p l e R s m args below meth c n0 T h k n) {o : Int} (hd : decode cod pc = .ok (.ifnonnull o, 3)) (hq : pc + 3 = pf) (kk : Gl p e below s R n0 Q T (mkF m pf L r)) : Gl p e below s R n0 Q T (mkF m pc L (.null :: r)) := by
  obtain ⟨locs, X, -⟩ := S; subst hq
  exact kk.st fun _ q => XS.ifnonnullNo X.here C.1 rfl (hb C.2.2.1 hd) rfl q
theorem g_ifnull_null (C : Cx p s m meth c Z own name cod maxL ret) (S : On p l e R s m args below meth c n0 T h k n) {o : Int} (hd : decode cod pc = .ok (.ifnull o, 3)) (ho : 0 ≤ (pc : Int) + o) (hp : ((pc : Int) + o).toNat = pc') (kk : Gl p e below s R n0 Q T (mkF m pc' L r)) : Gl p e below s R n0 Q T (mkF m pc L (.null :: r)) := by
  obtain ⟨locs, X, -⟩ := S
  exact kk.st fun _ q => XS.ifnullYes X.here C.1 rfl rfl (hb C.2.2.1 hd) rfl ho hp q
theorem g_ifnull_ref (C : Cx p s m meth c Z own name cod maxL ret) (S : On p l e R s m args below meth c n0 T h k n) {o : Int} (hd : decode cod pc = .ok (.ifnull o, 3)) (hq : pc + 3 = pf) (kk : Gl p e below s R n0 Q T (mkF m pf L r)) : Gl p e below s R n0 Q T (mkF m pc L (.ref a :: r)) := by
  obtain ⟨locs, X, -⟩ := S; subst hq
  exact kk.st fun _ q => XS.ifnullNo X.here C.1 rfl (hb C.2.2.1 hd) rfl q
theorem g_acmp_eq (C : Cx p s m meth c Z own name cod maxL ret) (S : On p l e R s m args below meth c n0 T h k n) {x y : Value} (hx : x.isRef = true) (hy : y.isRef = true) {o : Int} (hd : decode cod pc = .ok (.if_acmp .eq o, 3)) (ho : 0 ≤ (pc : Int) + o) (hp : ((pc : Int) + o).toNat = pc') (hq : pc + 3 = pf) (ht : x = y → Gl p e below s R n0 Q T (mkF m pc' L r)) (hf : ¬ x = y → Gl p e below s R n0 Q T (mkF m pf L r)) : Gl p e below s R n0 Q T (mkF m pc L (y :: x :: r)) := by
  obtain ⟨locs, X, -⟩ := S; subst hq hp
  by_cases q : x = y
  · exact (ht q).st fun _ z => Jvm.RoadKit.acmp X C.1 rfl hx hy (same := true) rfl (hb C.2.2.1 hd) rfl (decide_eq_true q) ho (by simp [acV]) z
  · exact (hf q).st fun _ z => Jvm.RoadKit.acmp X C.1 rfl hx hy (same := false) rfl (hb C.2.2.1 hd) rfl (decide_eq_false q) ho (by simp [acV]) z
theorem g_acmp_ne (C : Cx p s m meth c Z own name cod maxL ret) (S : On p l e R s m args below meth c n0 T h k n) {x y : Value} (hx : x.isRef = true) (hy : y.isRef = true) {o : Int} (hd : decode cod pc = .ok (.if_acmp .ne o, 3)) (ho : 0 ≤ (pc : Int) + o) (hp : ((pc : Int) + o).toNat = pc') (hq : pc + 3 = pf) (ht : ¬ x = y → Gl p e below s R n0 Q T (mkF m pc' L r)) (hf : x = y → Gl p e below s R n0 Q T (mkF m pf L r)) : Gl p e below s R n0 Q T (mkF m pc L (y :: x :: r)) := by
  obtain ⟨locs, X, -⟩ := S; subst hq hp
  by_cases q : x = y
  · exact (hf q).st fun _ z => Jvm.RoadKit.acmp X C.1 rfl hx hy (same := true) rfl (hb C.2.2.1 hd) rfl (decide_eq_true q) ho (by simp [acV]) z
  · exact (ht q).st fun _ z => Jvm.RoadKit.acmp X C.1 rfl hx hy (same := false) rfl (hb C.2.2.1 hd) rfl (decide_eq_false q) ho (by simp [acV]) z
theorem g_ldc (C : Cx p s m meth c Z own name cod maxL ret) (S : On p l e R s m args below meth c n0 T h k n) {v : Int32} {i : Nat} (hd : decode cod pc = .ok (.ldc i, 2)) (w : (Jvm.Cond.constant own i v).before a0 Z = true) (hp : pc + 2 = pc') (kk : Gl p e below s R n0 Q T (mkF m pc' L (.int v :: r))) : Gl p e below s R n0 Q T (mkF m pc L r) := by
  obtain ⟨locs, X, -⟩ := S; subst hp
  exact kk.st fun t q => X.ldcInt (g := mkF m pc L r) C.1 C.2.2.2.2.1 (mvT C.2.1 w) rfl (hb C.2.2.1 hd) t q
theorem g_ldc2 (C : Cx p s m meth c Z own name cod maxL ret) (S : On p l e R s m args below meth c n0 T h k n) {v : Int64} {i : Nat} (hd : decode cod pc = .ok (.ldc2_w i, 3)) (w : (Jvm.Cond.constantLong own i v).before a0 Z = true) (hp : pc + 3 = pc') (kk : Gl p e below s R n0 Q T (mkF m pc' L (.long v :: r))) : Gl p e below s R n0 Q T (mkF m pc L r) := by
  obtain ⟨locs, X, -⟩ := S; subst hp
  exact kk.st fun t q => X.ldc2Long (g := mkF m pc L r) C.1 C.2.2.2.2.1 (mvT C.2.1 w) rfl (hb C.2.2.1 hd) t q
theorem g_leave (C : Cx p s m meth c Z own name cod maxL ret) (S : On p l e R s m args below meth c n0 T h k n) {v : Option Value} (hk : k ≤ R.cells) (hn : n ≤ R.slots) (hv : meth.sig.returnType = none → v = none) (q : Q v h)
    (hst : ∀ fs, (∀ (f : JFrame) (acts : List Action), f.method = m → f.locked = none → f.entered = [] → (doReturn e (T.setTop f) acts v).1 = T.setFrames fs) → ∀ locs, Stand p l e R s m args below meth c T locs k n → Steps p.tables e below (T.setTop (mkF m pc L r)) (T.setFrames fs)) : Gl p e below s R n0 Q T (mkF m pc L r) := by
  obtain ⟨locs, X, N, eh⟩ := S
  obtain ⟨fs, hr, hrun, hended, hW, hsame⟩ := X.leave (v := v) hv C.2.2.2.2.2.2.2
  have q' : Q v (T.setFrames fs).heap := by show Q v T.heap; rw [eh]; exact q
  exact ⟨_, _, hst fs hr locs X, hrun, hended, _, _, rfl, ⟨q', N⟩, ⟨_, rfl⟩, hW, hsame.mono hk hn⟩
theorem g_return (C : Cx p s m meth c Z own name cod maxL none) (S : On p l e R s m args below meth c n0 T h k n) (hd : decode cod pc = .ok (.return_, 1)) (hk : k ≤ R.cells) (hn : n ≤ R.slots) (q : Q none h) : Gl p e below s R n0 Q T (mkF m pc L []) :=
  g_leave C S (v := none) hk hn (fun _ => rfl) q fun fs hr locs X => X.returnOut C.1 C.2.2.2.2.2.2.1 (hb C.2.2.1 hd) hr
theorem g_retv {t : FieldType} {w : Value} {i : Instr} (C : Cx p s m meth c Z own name cod maxL (some t)) (S : On p l e R s m args below meth c n0 T h k n) (hd : decode cod pc = .ok (i, 1)) (hn' : narrow t w = w) (hi : (i = .ireturn ∧ (t = .int ∨ t = .boolean ∨ t = .byte ∨ t = .char ∨ t = .short) ∧ ∃ z, w = .int z) ∨ (i = .lreturn ∧ t = .long ∧ ∃ z, w = .long z) ∨ (i = .dreturn ∧ t = .double ∧ ∃ z, w = .double z) ∨ (i = .freturn ∧ t = .float ∧ ∃ z, w = .float z) ∨ (i = .areturn ∧ t.isReference = true ∧ w.isRef = true)) (hk : k ≤ R.cells) (hn : n ≤ R.slots) (q : Q (some w) h) : Gl p e below s R n0 Q T (mkF m pc L (w :: r)) :=
  g_leave C S (v := some w) hk hn (fun z => by rw [C.2.2.2.2.2.2.1] at z; cases z) q fun fs hr locs X => retOut X C.1 C.2.2.2.2.2.2.1 hn' hi (hb C.2.2.1 hd) hr
theorem g_retI {z : Int32} (C : Cx p s m meth c Z own name cod maxL (some .int)) (S : On p l e R s m args below meth c n0 T h k n) (hd : decode cod pc = .ok (.ireturn, 1)) (hk : k ≤ R.cells) (hn : n ≤ R.slots) (q : Q (some (.int z)) h) : Gl p e below s R n0 Q T (mkF m pc L (.int z :: r)) := g_retv C S hd rfl (Or.inl ⟨rfl, Or.inl rfl, z, rfl⟩) hk hn q
theorem g_retZ {z : Int32} (C : Cx p s m meth c Z own name cod maxL (some .boolean)) (S : On p l e R s m args below meth c n0 T h k n) (hd : decode cod pc = .ok (.ireturn, 1)) (hz : z &&& 1 = z) (hk : k ≤ R.cells) (hn : n ≤ R.slots) (q : Q (some (.int z)) h) : Gl p e below s R n0 Q T (mkF m pc L (.int z :: r)) := g_retv C S hd (congrArg Value.int hz) (Or.inl ⟨rfl, Or.inr (Or.inl rfl), z, rfl⟩) hk hn q
theorem g_retJ {z : Int64} (C : Cx p s m meth c Z own name cod maxL (some .long)) (S : On p l e R s m args below meth c n0 T h k n) (hd : decode cod pc = .ok (.lreturn, 1)) (hk : k ≤ R.cells) (hn : n ≤ R.slots) (q : Q (some (.long z)) h) : Gl p e below s R n0 Q T (mkF m pc L (.long z :: r)) := g_retv C S hd rfl (Or.inr (Or.inl ⟨rfl, rfl, z, rfl⟩)) hk hn q
theorem g_retA {t : FieldType} {w : Value} (C : Cx p s m meth c Z own name cod maxL (some t)) (S : On p l e R s m args below meth c n0 T h k n) (hd : decode cod pc = .ok (.areturn, 1)) (ht : t.isReference = true) (hw : w.isRef = true) (hnw : narrow t w = w) (hk : k ≤ R.cells) (hn : n ≤ R.slots) (q : Q (some w) h) : Gl p e below s R n0 Q T (mkF m pc L (w :: r)) := g_retv C S hd hnw (Or.inr (Or.inr (Or.inr (Or.inr ⟨rfl, ht, hw⟩)))) hk hn q
theorem g_getF (C : Cx p s m meth c Z own name cod maxL ret) (S : On p l e R s m args below meth c n0 T h k n) {R0 O nm d host : String} {i : Nat} {v : Value} (hd : decode cod pc = .ok (.getfield i, 3)) (w : (Jvm.Cond.fieldLink own i R0 nm d).before a0 Z = true ∨ (Jvm.Cond.fieldLinkNest own i R0 nm d host).before a0 Z = true) (via : Via Z R0 O nm d) (F : Fld Z h a O nm d v) (hp : pc + 3 = pc') (kk : ∀ T', On p l e R s m args below meth c n0 T' h k n → Gl p e below s R n0 Q T' (mkF m pc' L (v :: r))) : Gl p e below s R n0 Q T (mkF m pc L (.ref a :: r)) := by
  obtain ⟨locs, X, N, eh⟩ := S; subst hp
  obtain ⟨T', X', eT, st⟩ := getF X C.1 C.2.1 C.2.2.2.2.1 w via eh F (g := mkF m pc L (.ref a :: r)) rfl rfl (hb C.2.2.1 hd)
  exact (kk T' ⟨locs, X', N, eT⟩).st st
theorem g_getS (C : Cx p s m meth c Z own name cod maxL ret) (S : On p l e R s m args below meth c n0 T h k n) {R0 O nm d host : String} {i : Nat} {v : Value} (hd : decode cod pc = .ok (.getstatic i, 3)) (w : (Jvm.Cond.fieldLink own i R0 nm d).before a0 Z = true ∨ (Jvm.Cond.fieldLinkNest own i R0 nm d host).before a0 Z = true) (via : Via Z R0 O nm d) (F : Sta Z h O nm d v) (hp : pc + 3 = pc') (kk : ∀ T', On p l e R s m args below meth c n0 T' h k n → Gl p e below s R n0 Q T' (mkF m pc' L (v :: r))) : Gl p e below s R n0 Q T (mkF m pc L r) := by
  obtain ⟨locs, X, N, eh⟩ := S; subst hp
  obtain ⟨T', X', eT, st⟩ := getS2 X C.1 C.2.1 C.2.2.2.2.1 w via eh F (g := mkF m pc L r) rfl (hb C.2.2.1 hd)
  exact (kk T' ⟨locs, X', N, eT⟩).st st
theorem g_putF (C : Cx p s m meth c Z own name cod maxL ret) (S : On p l e R s m args below meth c n0 T h k n) {R0 O nm d host K : String} {i kk0 : Nat} {ty : FieldType} {v old : Value} (hd : decode cod pc = .ok (.putfield i, 3)) (w : (Jvm.Cond.fieldLink own i R0 nm d).before a0 Z = true ∨ (Jvm.Cond.fieldLinkNest own i R0 nm d host).before a0 Z = true) (via : Via Z R0 O nm d) (F : Fld Z h a O nm d old) (E : Exa Z h a K) (Ly : (Jvm.Cond.lays K O nm d).before a0 Z = true ∨ ((Jvm.Cond.laysFinal K O nm d).before a0 Z = true ∧ own = O ∧ name = "<init>")) (wi : (Jvm.Cond.instantiable K kk0).before a0 Z = true) (hty : parseFieldDescriptor d = some ty) (hnr : narrow ty v = v) (hft : fits ty v = true) (ga : n0 ≤ a) (hp : pc + 3 = pc') (kk : ∀ T' h', On p l e R s m args below meth c n0 T' h' k n → Wr h h' a (Jvm.RoadKit.slotOf Z O nm d) v → Gl p e below s R n0 Q T' (mkF m pc' L r)) : Gl p e below s R n0 Q T (mkF m pc L (v :: .ref a :: r)) := by
  obtain ⟨locs, X, N, eh⟩ := S; subst hp
  obtain ⟨T', h', X', eT, W, st⟩ := putF X C.1 C.2.1 C.2.2.2.2.1 w via eh F E (Ly.imp id fun q => ⟨q.1, q.2.1, C.2.2.2.2.2.1.trans q.2.2⟩) wi hty hnr hft (g := mkF m pc L (v :: .ref a :: r)) rfl rfl (hb C.2.2.1 hd)
  exact (kk T' h' ⟨_, X', Fr.snoc X' N ga, eT⟩ W).st st
theorem g_new (C : Cx p s m meth c Z own name cod maxL ret) (S : On p l e R s m args below meth c n0 T h k n) {K : String} {i sz : Nat} (hd : decode cod pc = .ok (.new i, 3)) (w : (Jvm.Cond.classLink own i K).before a0 Z = true) (wi : (Jvm.Cond.instantiable K sz).before a0 Z = true) (wz : (Jvm.Cond.initialized K).before a0 Z = true) (hc : k + 1 ≤ R.cells) (hl : n + sz ≤ R.slots) (hp : pc + 3 = pc') (kk : ∀ T' h' a, On p l e R s m args below meth c n0 T' h' (k + 1) (n + sz) → a = h.size → Ext h h' → Exa Z h' a K → (∀ {O nm d : String} {ty : FieldType}, Laid Z a0 K O nm d → parseFieldDescriptor d = some ty → Fld Z h' a O nm d (defaultValue ty)) → Gl p e below s R n0 Q T' (mkF m pc' L (.ref a :: r))) : Gl p e below s R n0 Q T (mkF m pc L r) := by
  obtain ⟨locs, X, N, eh⟩ := S; subst hp
  obtain ⟨T', h', X', eT, E, A, D, -, st⟩ := newO X C.1 C.2.1 C.2.2.2.2.1 w wi wz eh (g := mkF m pc L r) rfl (hb C.2.2.1 hd) hc hl
  exact (kk T' h' h.size ⟨_, X', N, eT⟩ rfl E A D).st st
theorem g_initO (C : Cx p s m meth c Z own name cod maxL ret) (S : On p l e R s m args below meth c n0 T h k n) {i W : Nat} (hd : decode cod pc = .ok (.invokespecial i, 3)) (w1 : (Jvm.Cond.methodLink own i Lib.objectInit).before a0 Z = true) (w2 : (Jvm.Cond.instanceMethod Lib.objectInit).before a0 Z = true) (w3 : (Jvm.Cond.code Lib.objectInit ⟨#[0xb1]⟩ 1 none).before a0 Z = true) (hsz : L.size = maxL) (hf : 1 ≤ R.frames) (hW : (r.map fun v => v.category).sum ≤ W) (hl : W + 12 ≤ R.locals) (hp : pc + 3 = pc') (kk : ∀ T', On p l e R s m args below meth c n0 T' h k n → Gl p e below s R n0 Q T' (mkF m pc' L r)) : Gl p e below s R n0 Q T (mkF m pc L (.ref a :: r)) := by
  obtain ⟨locs, X, N, eh⟩ := S; subst hp
  obtain ⟨T', X', eT, st⟩ := initO X C.1 C.2.1 C.2.2.2.2.1 w1 w2 w3 eh (g := mkF m pc L (.ref a :: r)) rfl (hsz.trans C.2.2.2.1.symm) rfl (hb C.2.2.1 hd) hf (W := W) (by simpa using hW) hl
  exact (kk T' ⟨locs, X', N, eT⟩).st st
theorem notFace_of_inst {y : MethodName} {sz : Nat} (hZ : Z.Warmed39 s.vm) (wi : (Jvm.Cond.instantiable y.cls sz).before a0 Z = true) : NotFace s y := fun r0 h0 => by
  obtain ⟨c0, k0, i1, i2, -, i4, -⟩ := Cond.instantiable_spec (mvT (s := s) (args := #[]) hZ wi)
  have q := findClass_of_methodNamed h0
  rw [i1] at q; cases q
  exact ⟨k0, i2, (Bool.or_eq_false_iff.mp i4).1⟩
theorem g_callS (C : Cx p s m meth c Z own name cod maxL ret) (S : On p l e R s m args below meth c n0 T h k n) {y : MethodName} {bytes : ByteArray} {mx i W : Nat} {rt : Option FieldType} {rm : Room} {Q' : Option Value → Heap → Prop} {argsL stk : List Value} (hd : decode cod pc = .ok (.invokestatic i, 3)) (w1 : (Jvm.Cond.methodLink own i y).before a0 Z = true) (w2 : (Jvm.Cond.static y).before a0 Z = true) (w3 : (Jvm.Cond.initialized y.cls).before a0 Z = true) (w4 : (Jvm.Cond.code y bytes mx rt).before a0 Z = true) (hy : y.cls ≠ "java/lang/invoke/MethodHandle" ∧ y.cls ≠ "java/lang/invoke/VarHandle") (K : Con l Z y bytes mx rt rm argsL.toArray h n0 Q') (hst : stk = argsL.reverse ++ r) (hlen : ∀ sig, parseMethodDescriptor y.desc = some sig → argsL.length = sig.parameters.length) (hsz : L.size = maxL) (hW : (r.map fun v => v.category).sum ≤ W) (hf : rm.frames + 1 ≤ R.frames) (hlo : W + (mx + 11) + rm.locals ≤ R.locals) (hce : k + rm.cells ≤ R.cells) (hsl : n + rm.slots ≤ R.slots) (hp : pc + 3 = pc') (kk : ∀ T' h' v, Q' v h' → On p l e R s m args below meth c n0 T' h' (k + rm.cells) (n + rm.slots) → Gl p e below s R n0 Q T' (mkF m pc' L (v.toList ++ r))) : Gl p e below s R n0 Q T (mkF m pc L stk) := by
  obtain ⟨locs, X, N, eh⟩ := S; subst hp
  obtain ⟨v, vm1, ⟨T', L1, k1, n1⟩, -, X', ⟨Lc, hQ, l', y', z'⟩, st⟩ := Jvm.LawKit.callS X C.1 (y := y) C.2.2.2.2.1 (mvT C.2.1 w1) (mvT C.2.1 w2) (mvT C.2.1 w3) (mvT C.2.1 w4) hy (backOf (W := W) (Q := fun v h L => Q' v h ∧ Fr n0 L) (K []) C.2.1 w4 w3 hf hlo) (g := mkF m pc L stk) rfl (hsz.trans C.2.2.2.1.symm) (argsL := argsL) (rest := r) hlen hst (by simpa using hW) (hb C.2.2.1 hd) (fun _ _ => ⟨rfl, eh, hce, hsl⟩)
  dsimp only [Pt.U, Pt.locs, Pt.cells, Pt.slots] at X' st hQ l' y' z'
  subst l' y' z'
  exact (kk T' T'.heap v hQ.1 ⟨_, X', N.app hQ.2, rfl⟩).st st
theorem g_callI (C : Cx p s m meth c Z own name cod maxL ret) (S : On p l e R s m args below meth c n0 T h k n) {y : MethodName} {bytes : ByteArray} {mx i W : Nat} {rm : Room} {Q' : Option Value → Heap → Prop} {argsL stk : List Value} (hd : decode cod pc = .ok (.invokespecial i, 3)) (hy1 : y.name = "<init>") (w1 : (Jvm.Cond.methodLink own i y).before a0 Z = true) (w2 : (Jvm.Cond.instanceMethod y).before a0 Z = true) (w3 : (Jvm.Cond.initialized y.cls).before a0 Z = true) (w4 : (Jvm.Cond.code y bytes mx none).before a0 Z = true) (hy : y.cls ≠ "java/lang/invoke/MethodHandle" ∧ y.cls ≠ "java/lang/invoke/VarHandle") (K : Con l Z y bytes mx none rm (.ref a :: argsL).toArray h n0 Q') (hst : stk = argsL.reverse ++ .ref a :: r) (hlen : ∀ sig, parseMethodDescriptor y.desc = some sig → argsL.length = sig.parameters.length) (hsz : L.size = maxL) (hW : (r.map fun v => v.category).sum ≤ W) (hf : rm.frames + 1 ≤ R.frames) (hlo : W + (mx + 11) + rm.locals ≤ R.locals) (hce : k + rm.cells ≤ R.cells) (hsl : n + rm.slots ≤ R.slots) (hp : pc + 3 = pc') (kk : ∀ T' h' v, Q' v h' → On p l e R s m args below meth c n0 T' h' (k + rm.cells) (n + rm.slots) → Gl p e below s R n0 Q T' (mkF m pc' L (v.toList ++ r))) : Gl p e below s R n0 Q T (mkF m pc L stk) := by
  obtain ⟨locs, X, N, eh⟩ := S; subst hp
  obtain ⟨v, vm1, ⟨T', L1, k1, n1⟩, -, X', ⟨Lc, hQ, l', y', z'⟩, st⟩ := X.specialBack C.1 (y := y) hy1 C.2.2.2.2.1 (mvT C.2.1 w1) (mvT C.2.1 w2) (mvT C.2.1 w4) hy (backOf (W := W) (Q := fun v h L => Q' v h ∧ Fr n0 L) (K []) C.2.1 w4 w3 hf hlo) (g := mkF m pc L stk) rfl (hsz.trans C.2.2.2.1.symm) (Steps.refl _) (a := a) (argsL := argsL) (rest := r) hlen hst (by simpa using hW) (hb C.2.2.1 hd) (fun _ _ => ⟨rfl, eh, hce, hsl⟩)
  dsimp only [Pt.U, Pt.locs, Pt.cells, Pt.slots] at X' st hQ l' y' z'
  subst l' y' z'
  exact (kk T' T'.heap v hQ.1 ⟨_, X', N.app hQ.2, rfl⟩).st fun _ q => st.trans q
theorem g_callV (C : Cx p s m meth c Z own name cod maxL ret) (S : On p l e R s m args below meth c n0 T h k n) {K : String} {y z : MethodName} {bytes : ByteArray} {mx i W : Nat} {rt : Option FieldType} {rm : Room} {Q' : Option Value → Heap → Prop} {argsL stk : List Value} (hd : decode cod pc = .ok (.invokevirtual i, 3)) (w1 : (Jvm.Cond.methodLink own i y).before a0 Z = true) (w2 : (Jvm.Cond.declares y).before a0 Z = true) (hnf : NotFace s y) (w5 : (Jvm.Cond.selects K y z).before a0 Z = true) (w6 : (Jvm.Cond.instanceMethod z).before a0 Z = true) (w3 : (Jvm.Cond.initialized z.cls).before a0 Z = true) (w4 : (Jvm.Cond.code z bytes mx rt).before a0 Z = true) (hy : y.cls ≠ "java/lang/invoke/MethodHandle" ∧ y.cls ≠ "java/lang/invoke/VarHandle") (hyK : y.cls = K) (E : Exa Z h a K) (Kc : Con l Z z bytes mx rt rm (.ref a :: argsL).toArray h n0 Q') (hst : stk = argsL.reverse ++ .ref a :: r) (hlen : ∀ sig, parseMethodDescriptor y.desc = some sig → argsL.length = sig.parameters.length) (hsz : L.size = maxL) (hW : (r.map fun v => v.category).sum ≤ W) (hf : rm.frames + 1 ≤ R.frames) (hlo : W + (mx + 11) + rm.locals ≤ R.locals) (hce : k + rm.cells ≤ R.cells) (hsl : n + rm.slots ≤ R.slots) (hp : pc + 3 = pc') (kk : ∀ T' h' v, Q' v h' → On p l e R s m args below meth c n0 T' h' (k + rm.cells) (n + rm.slots) → Gl p e below s R n0 Q T' (mkF m pc' L (v.toList ++ r))) : Gl p e below s R n0 Q T (mkF m pc L stk) := by
  obtain ⟨locs, X, N, eh⟩ := S; subst hp hyK
  obtain ⟨cq, kq, qa, qb, qc⟩ := isOf C.2.1 eh E
  obtain ⟨v, vm1, ⟨T', L1, k1, n1⟩, -, X', ⟨Lc, hQ, l', y', z'⟩, st⟩ := X.virtualBack C.1 (y := y) (z := z) C.2.2.2.2.1 (mvT C.2.1 w1) (mvT C.2.1 w2) hnf (mvT C.2.1 w5) (mvT C.2.1 w6) hy (backOf (W := W) (Q := fun v h L => Q' v h ∧ Fr n0 L) (Kc []) C.2.1 w4 w3 hf hlo) qa qc (g := mkF m pc L stk) rfl (hsz.trans C.2.2.2.1.symm) (Steps.refl _) (argsL := argsL) (rest := r) hlen hst (by simpa using hW) (hb C.2.2.1 hd) (fun _ _ => ⟨rfl, eh, hce, hsl⟩)
  dsimp only [Pt.U, Pt.locs, Pt.cells, Pt.slots] at X' st hQ l' y' z'
  subst l' y' z'
  exact (kk T' T'.heap v hQ.1 ⟨_, X', N.app hQ.2, rfl⟩).st fun _ q => st.trans q
theorem g_callP (C : Cx p s m meth c Z own name cod maxL ret) (S : On p l e R s m args below meth c n0 T h k n) {y : MethodName} {bytes : ByteArray} {mx i W sz : Nat} {rt : Option FieldType} {rm : Room} {Q' : Option Value → Heap → Prop} {argsL stk : List Value} (hd : decode cod pc = .ok (.invokevirtual i, 3)) (w1 : (Jvm.Cond.methodLink own i y).before a0 Z = true) (w2 : (Jvm.Cond.instanceMethod y).before a0 Z = true) (wp : (Jvm.Cond.privateMethod y).before a0 Z = true) (wi : (Jvm.Cond.instantiable y.cls sz).before a0 Z = true) (w3 : (Jvm.Cond.initialized y.cls).before a0 Z = true) (w4 : (Jvm.Cond.code y bytes mx rt).before a0 Z = true) (hy : y.cls ≠ "java/lang/invoke/MethodHandle" ∧ y.cls ≠ "java/lang/invoke/VarHandle") (E : Exa Z h a y.cls) (Kc : Con l Z y bytes mx rt rm (.ref a :: argsL).toArray h n0 Q') (hst : stk = argsL.reverse ++ .ref a :: r) (hlen : ∀ sig, parseMethodDescriptor y.desc = some sig → argsL.length = sig.parameters.length) (hsz : L.size = maxL) (hW : (r.map fun v => v.category).sum ≤ W) (hf : rm.frames + 1 ≤ R.frames) (hlo : W + (mx + 11) + rm.locals ≤ R.locals) (hce : k + rm.cells ≤ R.cells) (hsl : n + rm.slots ≤ R.slots) (hp : pc + 3 = pc') (kk : ∀ T' h' v, Q' v h' → On p l e R s m args below meth c n0 T' h' (k + rm.cells) (n + rm.slots) → Gl p e below s R n0 Q T' (mkF m pc' L (v.toList ++ r))) : Gl p e below s R n0 Q T (mkF m pc L stk) := by
  obtain ⟨locs, X, N, eh⟩ := S; subst hp
  obtain ⟨cq, q1, q2⟩ := E.cell
  obtain ⟨c0, k0, i1, i2, i3, i4, -⟩ := Cond.instantiable_spec (mvT (s := s) (args := args) C.2.1 wi)
  have hpr := Cond.privateMethod_at (mvP (s := s) (args := args) C.2.1 wp)
  have hs := selects_self_of_private (args := args) i1 i2 (Bool.or_eq_false_iff.mp i4).1 hpr (mvT C.2.1 w2) hy
  obtain ⟨v, vm1, ⟨T', L1, k1, n1⟩, -, X', ⟨Lc, hQ, l', y', z'⟩, st⟩ := X.privateBack C.1 (y := y) C.2.2.2.2.1 (mvT C.2.1 w1) (mvT C.2.1 w2) hs hpr (mvT C.2.1 w4) hy (backOf (W := W) (Q := fun v h L => Q' v h ∧ Fr n0 L) (Kc []) C.2.1 w4 w3 hf hlo) (g := mkF m pc L stk) rfl (hsz.trans C.2.2.2.1.symm) (Steps.refl _) (a := a) (by rw [eh]; exact q1) q2 (argsL := argsL) (rest := r) hlen hst (by simpa using hW) (hb C.2.2.1 hd) (fun _ _ => ⟨rfl, eh, hce, hsl⟩)
  dsimp only [Pt.U, Pt.locs, Pt.cells, Pt.slots] at X' st hQ l' y' z'
  subst l' y' z'
  exact (kk T' T'.heap v hQ.1 ⟨_, X', N.app hQ.2, rfl⟩).st fun _ q => st.trans q
/-- an array: its length and what each place holds -/
def Ary (Z : State) (h : Heap) (a : Addr) (ty : FieldType) (n : Nat) (f : Nat → Value) : Prop := ∃ c : Cell, Arr Z h a c ty ∧ c.slots.size = n ∧ ∀ i, i < n → c.slots[i]? = some (f i)
variable {ty : FieldType} {N i : Nat} {f : Nat → Value} {v : Value} {sl : Nat} {j x : Int32} {ws : List Addr}
theorem Ary.lt (A : Ary Z h a ty N f) : a < h.size := by obtain ⟨c, A, -⟩ := A; exact A.lt
theorem Ary.ext (A : Ary Z h a ty N f) (E : Ext h h') : Ary Z h' a ty N f := by obtain ⟨c, A, q⟩ := A; exact ⟨c, A.ext E, q⟩
theorem Ary.other (A : Ary Z h a ty N f) (W : Wr h h' b sl v) (q : a ≠ b) : Ary Z h' a ty N f := by obtain ⟨c, A, z⟩ := A; exact ⟨c, A.other W q, z⟩
theorem Ary.keep (A : Ary Z h a ty N f) (K : Keep h h' ws) (q : a ∉ ws) : Ary Z h' a ty N f := by obtain ⟨c, A, z⟩ := A; exact ⟨c, ⟨K.2.1 a c A.1 q, A.2⟩, z⟩
theorem Ary.cg {f' : Nat → Value} (A : Ary Z h a ty N f) (q : ∀ i, i < N → f i = f' i) : Ary Z h a ty N f' := by obtain ⟨c, A, s, z⟩ := A; exact ⟨c, A, s, fun i hi => by rw [← q i hi]; exact z i hi⟩
theorem Ary.same (A : Ary Z h a ty N f) (W : Wr h h' a i v) : Ary Z h' a ty N (fun q => if q = i then v else f q) := by
  obtain ⟨c, A, s, z⟩ := A
  refine ⟨_, A.same W, by rw [sz_set]; exact s, fun q hq => ?_⟩
  by_cases u : q = i
  · subst u; simp [Cell.setSlot, s, hq]
  · simp only [u, if_false]; simp only [Cell.setSlot]; rw [Array.getElem?_setIfInBounds_ne (fun w => u w.symm)]; exact z q hq
theorem idx_nat {c : Cell} (hj : j.toInt = (i : Int)) (hi : i < c.slots.size) : ¬ (j < 0 ∨ c.slots.size ≤ j.toNatClampNeg) ∧ j.toNatClampNeg = i := by
  have e : j.toNatClampNeg = i := by simp only [Int32.toNatClampNeg, hj]; omega
  refine ⟨?_, e⟩
  rw [e, Int32.lt_iff_toInt_lt, hj]
  have : (0 : Int32).toInt = 0 := rfl
  omega
theorem g_iaload (C : Cx p s m meth c Z own name cod maxL ret) (S : On p l e R s m args below meth c n0 T h k n) (hd : decode cod pc = .ok (.iaload, 1)) (A : Ary Z h a .int N f) (hj : j.toInt = (i : Int)) (hi : i < N) (hv : f i = v) (hp : pc + 1 = pc') (kk : Gl p e below s R n0 Q T (mkF m pc' L (v :: r))) : Gl p e below s R n0 Q T (mkF m pc L (.int j :: .ref a :: r)) := by
  obtain ⟨locs, X, N, eh⟩ := S; subst hp
  obtain ⟨cl, A, sz, z⟩ := A
  obtain ⟨q1, q2⟩ := idx_nat (c := cl) hj (by rw [sz]; exact hi)
  exact kk.st fun t q => X.iaload (g := mkF m pc L (.int j :: .ref a :: r)) C.1 (by rw [eh]; exact A.1) (State.isArrayOf_alike C.2.1.alike A.2.1) A.2.2 q1 (by rw [q2, ← hv]; exact z i hi) rfl rfl (hb C.2.2.1 hd) t q
theorem g_laload (C : Cx p s m meth c Z own name cod maxL ret) (S : On p l e R s m args below meth c n0 T h k n) (hd : decode cod pc = .ok (.laload, 1)) (A : Ary Z h a .long N f) (hj : j.toInt = (i : Int)) (hi : i < N) (hv : f i = v) (hp : pc + 1 = pc') (kk : Gl p e below s R n0 Q T (mkF m pc' L (v :: r))) : Gl p e below s R n0 Q T (mkF m pc L (.int j :: .ref a :: r)) := by
  obtain ⟨locs, X, N, eh⟩ := S; subst hp
  obtain ⟨cl, A, sz, z⟩ := A
  obtain ⟨q1, q2⟩ := idx_nat (c := cl) hj (by rw [sz]; exact hi)
  exact kk.st fun t q => X.laload (g := mkF m pc L (.int j :: .ref a :: r)) C.1 (by rw [eh]; exact A.1) (State.isArrayOf_alike C.2.1.alike A.2.1) A.2.2 q1 (by rw [q2, ← hv]; exact z i hi) rfl rfl (hb C.2.2.1 hd) t q
theorem g_caload (C : Cx p s m meth c Z own name cod maxL ret) (S : On p l e R s m args below meth c n0 T h k n) (hd : decode cod pc = .ok (.caload, 1)) (A : Ary Z h a .char N f) (hj : j.toInt = (i : Int)) (hi : i < N) (hv : f i = v) (hp : pc + 1 = pc') (kk : Gl p e below s R n0 Q T (mkF m pc' L (v :: r))) : Gl p e below s R n0 Q T (mkF m pc L (.int j :: .ref a :: r)) := by
  obtain ⟨locs, X, N, eh⟩ := S; subst hp
  obtain ⟨cl, A, sz, z⟩ := A
  obtain ⟨q1, q2⟩ := idx_nat (c := cl) hj (by rw [sz]; exact hi)
  exact kk.st fun t q => X.caload (g := mkF m pc L (.int j :: .ref a :: r)) C.1 (by rw [eh]; exact A.1) (State.isArrayOf_alike C.2.1.alike A.2.1) A.2.2 q1 (by rw [q2, ← hv]; exact z i hi) rfl rfl (hb C.2.2.1 hd) t q
theorem g_saload (C : Cx p s m meth c Z own name cod maxL ret) (S : On p l e R s m args below meth c n0 T h k n) (hd : decode cod pc = .ok (.saload, 1)) (A : Ary Z h a .short N f) (hj : j.toInt = (i : Int)) (hi : i < N) (hv : f i = v) (hp : pc + 1 = pc') (kk : Gl p e below s R n0 Q T (mkF m pc' L (v :: r))) : Gl p e below s R n0 Q T (mkF m pc L (.int j :: .ref a :: r)) := by
  obtain ⟨locs, X, N, eh⟩ := S; subst hp
  obtain ⟨cl, A, sz, z⟩ := A
  obtain ⟨q1, q2⟩ := idx_nat (c := cl) hj (by rw [sz]; exact hi)
  exact kk.st fun t q => X.saload (g := mkF m pc L (.int j :: .ref a :: r)) C.1 (by rw [eh]; exact A.1) (State.isArrayOf_alike C.2.1.alike A.2.1) A.2.2 q1 (by rw [q2, ← hv]; exact z i hi) rfl rfl (hb C.2.2.1 hd) t q
theorem g_baloadB (C : Cx p s m meth c Z own name cod maxL ret) (S : On p l e R s m args below meth c n0 T h k n) (hd : decode cod pc = .ok (.baload, 1)) (A : Ary Z h a .byte N f) (hj : j.toInt = (i : Int)) (hi : i < N) (hv : f i = v) (hp : pc + 1 = pc') (kk : Gl p e below s R n0 Q T (mkF m pc' L (v :: r))) : Gl p e below s R n0 Q T (mkF m pc L (.int j :: .ref a :: r)) := by
  obtain ⟨locs, X, N, eh⟩ := S; subst hp
  obtain ⟨cl, A, sz, z⟩ := A
  obtain ⟨q1, q2⟩ := idx_nat (c := cl) hj (by rw [sz]; exact hi)
  exact kk.st fun t q => X.baloadBytes (g := mkF m pc L (.int j :: .ref a :: r)) C.1 (by rw [eh]; exact A.1) (State.isArrayOf_alike C.2.1.alike A.2.1) A.2.2 q1 (by rw [q2, ← hv]; exact z i hi) rfl rfl (hb C.2.2.1 hd) t q
theorem g_baloadZ (C : Cx p s m meth c Z own name cod maxL ret) (S : On p l e R s m args below meth c n0 T h k n) (hd : decode cod pc = .ok (.baload, 1)) (A : Ary Z h a .boolean N f) (hj : j.toInt = (i : Int)) (hi : i < N) (hv : f i = v) (hp : pc + 1 = pc') (kk : Gl p e below s R n0 Q T (mkF m pc' L (v :: r))) : Gl p e below s R n0 Q T (mkF m pc L (.int j :: .ref a :: r)) := by
  obtain ⟨locs, X, N, eh⟩ := S; subst hp
  obtain ⟨cl, A, sz, z⟩ := A
  obtain ⟨q1, q2⟩ := idx_nat (c := cl) hj (by rw [sz]; exact hi)
  exact kk.st fun t q => X.baloadBooleans (g := mkF m pc L (.int j :: .ref a :: r)) C.1 (by rw [eh]; exact A.1) (State.isArrayOf_alike C.2.1.alike A.2.1) A.2.2 q1 (by rw [q2, ← hv]; exact z i hi) rfl rfl (hb C.2.2.1 hd) t q
theorem g_daload (C : Cx p s m meth c Z own name cod maxL ret) (S : On p l e R s m args below meth c n0 T h k n) (hd : decode cod pc = .ok (.daload, 1)) (A : Ary Z h a .double N f) (hj : j.toInt = (i : Int)) (hi : i < N) (hv : f i = v) (hp : pc + 1 = pc') (kk : Gl p e below s R n0 Q T (mkF m pc' L (v :: r))) : Gl p e below s R n0 Q T (mkF m pc L (.int j :: .ref a :: r)) := by
  obtain ⟨locs, X, N, eh⟩ := S; subst hp
  obtain ⟨cl, A, sz, z⟩ := A
  obtain ⟨q1, q2⟩ := idx_nat (c := cl) hj (by rw [sz]; exact hi)
  exact kk.st fun t q => X.daload (g := mkF m pc L (.int j :: .ref a :: r)) C.1 (by rw [eh]; exact A.1) (State.isArrayOf_alike C.2.1.alike A.2.1) A.2.2 q1 (by rw [q2, ← hv]; exact z i hi) rfl rfl (hb C.2.2.1 hd) t q
theorem g_aaload (C : Cx p s m meth c Z own name cod maxL ret) (S : On p l e R s m args below meth c n0 T h k n) (hd : decode cod pc = .ok (.aaload, 1)) (A : Ary Z h a ty N f) (hty : ty.isReference = true) (hj : j.toInt = (i : Int)) (hi : i < N) (hv : f i = v) (hp : pc + 1 = pc') (kk : Gl p e below s R n0 Q T (mkF m pc' L (v :: r))) : Gl p e below s R n0 Q T (mkF m pc L (.int j :: .ref a :: r)) := by
  obtain ⟨locs, X, N, eh⟩ := S; subst hp
  obtain ⟨cl, A, sz, z⟩ := A
  obtain ⟨q1, q2⟩ := idx_nat (c := cl) hj (by rw [sz]; exact hi)
  exact kk.st fun t q => X.aaload (g := mkF m pc L (.int j :: .ref a :: r)) C.1 (by rw [eh]; exact A.1) (State.isArrayOf_alike C.2.1.alike A.2.1) hty A.2.2 q1 (by rw [q2, ← hv]; exact z i hi) rfl rfl (hb C.2.2.1 hd) t q
theorem g_arraylength (C : Cx p s m meth c Z own name cod maxL ret) (S : On p l e R s m args below meth c n0 T h k n) (hd : decode cod pc = .ok (.arraylength, 1)) (A : Ary Z h a ty N f) (hx : N.toInt32 = x) (hp : pc + 1 = pc') (kk : Gl p e below s R n0 Q T (mkF m pc' L (.int x :: r))) : Gl p e below s R n0 Q T (mkF m pc L (.ref a :: r)) := by
  obtain ⟨locs, X, _, eh⟩ := S; subst hp
  obtain ⟨cl, A, sz, z⟩ := A
  subst hx
  rw [← sz] at kk
  exact kk.st fun t q => X.arraylength (g := mkF m pc L (.ref a :: r)) C.1 (by rw [eh]; exact A.1) (State.isArrayOf_alike C.2.1.alike A.2.1) rfl rfl (hb C.2.2.1 hd) t q
theorem g_iastore (C : Cx p s m meth c Z own name cod maxL ret) (S : On p l e R s m args below meth c n0 T h k n) {y : Int32} (hd : decode cod pc = .ok (.iastore, 1)) (A : Ary Z h a .int N f) (hj : j.toInt = (i : Int)) (hi : i < N) (ga : n0 ≤ a) (hp : pc + 1 = pc') (kk : ∀ T' h', On p l e R s m args below meth c n0 T' h' k n → Wr h h' a i (.int y) → Ary Z h' a .int N (fun q => if q = i then .int y else f q) → Gl p e below s R n0 Q T' (mkF m pc' L r)) : Gl p e below s R n0 Q T (mkF m pc L (.int y :: .int j :: .ref a :: r)) := by
  obtain ⟨locs, X, N, eh⟩ := S; subst hp
  have A0 := A
  obtain ⟨cl, A, sz, z⟩ := A
  obtain ⟨q1, q2⟩ := idx_nat (c := cl) hj (by rw [sz]; exact hi)
  obtain ⟨T', h', X', eT, W, st⟩ := stI X C.1 C.2.1 eh A q1 (g := mkF m pc L (.int y :: .int j :: .ref a :: r)) rfl rfl (hb C.2.2.1 hd)
  have N' := Fr.snoc X' N ga
  rw [q2] at W
  exact (kk T' h' ⟨_, X', N', eT⟩ W (A0.same W)).st st
theorem g_lastore (C : Cx p s m meth c Z own name cod maxL ret) (S : On p l e R s m args below meth c n0 T h k n) {y : Int64} (hd : decode cod pc = .ok (.lastore, 1)) (A : Ary Z h a .long N f) (hj : j.toInt = (i : Int)) (hi : i < N) (ga : n0 ≤ a) (hp : pc + 1 = pc') (kk : ∀ T' h', On p l e R s m args below meth c n0 T' h' k n → Wr h h' a i (.long y) → Ary Z h' a .long N (fun q => if q = i then .long y else f q) → Gl p e below s R n0 Q T' (mkF m pc' L r)) : Gl p e below s R n0 Q T (mkF m pc L (.long y :: .int j :: .ref a :: r)) := by
  obtain ⟨locs, X, N, eh⟩ := S; subst hp
  have A0 := A
  obtain ⟨cl, A, sz, z⟩ := A
  obtain ⟨q1, q2⟩ := idx_nat (c := cl) hj (by rw [sz]; exact hi)
  obtain ⟨T', h', X', eT, W, st⟩ := stJ X C.1 C.2.1 eh A q1 (g := mkF m pc L (.long y :: .int j :: .ref a :: r)) rfl rfl (hb C.2.2.1 hd)
  have N' := Fr.snoc X' N ga
  rw [q2] at W
  exact (kk T' h' ⟨_, X', N', eT⟩ W (A0.same W)).st st
theorem g_castore (C : Cx p s m meth c Z own name cod maxL ret) (S : On p l e R s m args below meth c n0 T h k n) {y : Int32} (hd : decode cod pc = .ok (.castore, 1)) (A : Ary Z h a .char N f) (hj : j.toInt = (i : Int)) (hi : i < N) (ga : n0 ≤ a) (hp : pc + 1 = pc') (kk : ∀ T' h', On p l e R s m args below meth c n0 T' h' k n → Wr h h' a i (.int (nar .char y)) → Ary Z h' a .char N (fun q => if q = i then .int (nar .char y) else f q) → Gl p e below s R n0 Q T' (mkF m pc' L r)) : Gl p e below s R n0 Q T (mkF m pc L (.int y :: .int j :: .ref a :: r)) := by
  obtain ⟨locs, X, N, eh⟩ := S; subst hp
  have A0 := A
  obtain ⟨cl, A, sz, z⟩ := A
  obtain ⟨q1, q2⟩ := idx_nat (c := cl) hj (by rw [sz]; exact hi)
  obtain ⟨T', h', X', eT, W, st⟩ := stC X C.1 C.2.1 eh A q1 (g := mkF m pc L (.int y :: .int j :: .ref a :: r)) rfl rfl (hb C.2.2.1 hd)
  have N' := Fr.snoc X' N ga
  rw [q2] at W
  exact (kk T' h' ⟨_, X', N', eT⟩ W (A0.same W)).st st
theorem g_bastoreB (C : Cx p s m meth c Z own name cod maxL ret) (S : On p l e R s m args below meth c n0 T h k n) {y : Int32} (hd : decode cod pc = .ok (.bastore, 1)) (A : Ary Z h a .byte N f) (hj : j.toInt = (i : Int)) (hi : i < N) (ga : n0 ≤ a) (hp : pc + 1 = pc') (kk : ∀ T' h', On p l e R s m args below meth c n0 T' h' k n → Wr h h' a i (.int (nar .byte y)) → Ary Z h' a .byte N (fun q => if q = i then .int (nar .byte y) else f q) → Gl p e below s R n0 Q T' (mkF m pc' L r)) : Gl p e below s R n0 Q T (mkF m pc L (.int y :: .int j :: .ref a :: r)) := by
  obtain ⟨locs, X, N, eh⟩ := S; subst hp
  have A0 := A
  obtain ⟨cl, A, sz, z⟩ := A
  obtain ⟨q1, q2⟩ := idx_nat (c := cl) hj (by rw [sz]; exact hi)
  obtain ⟨T', h', X', eT, W, st⟩ := stB X C.1 C.2.1 eh A q1 (g := mkF m pc L (.int y :: .int j :: .ref a :: r)) rfl rfl (hb C.2.2.1 hd)
  have N' := Fr.snoc X' N ga
  rw [q2] at W
  exact (kk T' h' ⟨_, X', N', eT⟩ W (A0.same W)).st st
theorem g_bastoreZ (C : Cx p s m meth c Z own name cod maxL ret) (S : On p l e R s m args below meth c n0 T h k n) {y : Int32} (hd : decode cod pc = .ok (.bastore, 1)) (A : Ary Z h a .boolean N f) (hj : j.toInt = (i : Int)) (hi : i < N) (ga : n0 ≤ a) (hp : pc + 1 = pc') (kk : ∀ T' h', On p l e R s m args below meth c n0 T' h' k n → Wr h h' a i (.int (nar .boolean y)) → Ary Z h' a .boolean N (fun q => if q = i then .int (nar .boolean y) else f q) → Gl p e below s R n0 Q T' (mkF m pc' L r)) : Gl p e below s R n0 Q T (mkF m pc L (.int y :: .int j :: .ref a :: r)) := by
  obtain ⟨locs, X, N, eh⟩ := S; subst hp
  have A0 := A
  obtain ⟨cl, A, sz, z⟩ := A
  obtain ⟨q1, q2⟩ := idx_nat (c := cl) hj (by rw [sz]; exact hi)
  obtain ⟨T', h', X', eT, W, st⟩ := stZ X C.1 C.2.1 eh A q1 (g := mkF m pc L (.int y :: .int j :: .ref a :: r)) rfl rfl (hb C.2.2.1 hd)
  have N' := Fr.snoc X' N ga
  rw [q2] at W
  exact (kk T' h' ⟨_, X', N', eT⟩ W (A0.same W)).st st
theorem g_dastore (C : Cx p s m meth c Z own name cod maxL ret) (S : On p l e R s m args below meth c n0 T h k n) {y : UInt64} (hd : decode cod pc = .ok (.dastore, 1)) (A : Ary Z h a .double N f) (hj : j.toInt = (i : Int)) (hi : i < N) (ga : n0 ≤ a) (hp : pc + 1 = pc') (kk : ∀ T' h', On p l e R s m args below meth c n0 T' h' k n → Wr h h' a i (.double y) → Ary Z h' a .double N (fun q => if q = i then .double y else f q) → Gl p e below s R n0 Q T' (mkF m pc' L r)) : Gl p e below s R n0 Q T (mkF m pc L (.double y :: .int j :: .ref a :: r)) := by
  obtain ⟨locs, X, N, eh⟩ := S; subst hp
  have A0 := A
  obtain ⟨cl, A, sz, z⟩ := A
  obtain ⟨q1, q2⟩ := idx_nat (c := cl) hj (by rw [sz]; exact hi)
  obtain ⟨T', h', X', eT, W, st⟩ := stD X C.1 C.2.1 eh A q1 (g := mkF m pc L (.double y :: .int j :: .ref a :: r)) rfl rfl (hb C.2.2.1 hd)
  have N' := Fr.snoc X' N ga
  rw [q2] at W
  exact (kk T' h' ⟨_, X', N', eT⟩ W (A0.same W)).st st
theorem g_newarray (C : Cx p s m meth c Z own name cod maxL ret) (S : On p l e R s m args below meth c n0 T h k n) {aty : ArrayType} {cap : Nat} (hd : decode cod pc = .ok (.newarray aty, 2)) (w : (Jvm.Cond.arrayClass (newarray.typeOf aty)).before a0 Z = true) (hj : j.toInt = (N : Int)) (hcap : N ≤ cap) (hbig : cap * 8 ≤ 536870912) (hc : k + 1 ≤ R.cells) (hl : n + cap ≤ R.slots) (hp : pc + 2 = pc') (kk : ∀ T' h' a, On p l e R s m args below meth c n0 T' h' (k + 1) (n + cap) → a = h.size → Ext h h' → Ary Z h' a (newarray.typeOf aty) N (fun _ => defaultValue (newarray.typeOf aty)) → Gl p e below s R n0 Q T' (mkF m pc' L (.ref a :: r))) : Gl p e below s R n0 Q T (mkF m pc L (.int j :: r)) := by
  obtain ⟨locs, X, Nn, eh⟩ := S; subst hp
  have e1 : j.toNatClampNeg = N := by simp only [Int32.toNatClampNeg, hj]; omega
  have e2 : ¬ j < 0 := by rw [Int32.lt_iff_toInt_lt, hj]; have : (0 : Int32).toInt = 0 := rfl; omega
  obtain ⟨T', h', cA, X', eT, E, A, st⟩ := newP X C.1 C.2.1 w eh (g := mkF m pc L (.int j :: r)) rfl (hb C.2.2.1 hd) rfl e2 (cap := cap) (by rw [e1]; exact hcap) hbig hc hl
  refine (kk T' h' h.size ⟨_, X', Nn, eT⟩ rfl E ⟨_, A, by rw [sz_new]; exact e1, fun i hi => ?_⟩).st st
  simp [newA, e1, hi]
theorem ge_of {z : Nat} (e1 : a = z) (q : n0 ≤ z) : n0 ≤ a := e1 ▸ q
theorem ne_new (e1 : b = h.size) (q : a < h.size) : a ≠ b := fun e => by rw [e, e1] at q; exact Nat.lt_irrefl _ q
end OwnKit
def own_ok (p : Int32) : Int32 := if p < (200 : Int32) then 0 else if (599 : Int32) < p then 0 else 1
theorem ds_0 : decode prog_56_method_6_code 0 = .ok (.iload_n 0, 1) := by decide +kernel
theorem ds_1 : decode prog_56_method_6_code 1 = .ok (.sipush 200, 3) := by decide +kernel
theorem ds_4 : decode prog_56_method_6_code 4 = .ok (.if_icmp .lt 14, 3) := by decide +kernel
theorem ds_7 : decode prog_56_method_6_code 7 = .ok (.iload_n 0, 1) := by decide +kernel
theorem ds_8 : decode prog_56_method_6_code 8 = .ok (.sipush 599, 3) := by decide +kernel
theorem ds_11 : decode prog_56_method_6_code 11 = .ok (.if_icmp .gt 7, 3) := by decide +kernel
theorem ds_14 : decode prog_56_method_6_code 14 = .ok (.iconst 1, 1) := by decide +kernel
theorem ds_15 : decode prog_56_method_6_code 15 = .ok (.goto 4, 3) := by decide +kernel
theorem ds_18 : decode prog_56_method_6_code 18 = .ok (.iconst 0, 1) := by decide +kernel
theorem ds_19 : decode prog_56_method_6_code 19 = .ok (.ireturn, 1) := by decide +kernel
set_option maxRecDepth 65536 in
set_option maxHeartbeats 40000000 in
theorem c_isa (l : Launch) (Z : State) (a0 : Array Value) (hw : ∀ d ∈ tables_1, d.before a0 Z = true) (p1 : Int32) (h0 : Heap) (n0 : Nat) :
    Con l Z (⟨"com/example/kindling/kindling/web/Response", "isAnswerStatus", "(I)Z"⟩ : MethodName) prog_56_method_6_code 1 (some .boolean) ({ frames := 0, cells := 0, slots := 0, locals := 0 } : Room) #[(.int p1)] h0 n0 (fun v h => v = some (.int (own_ok p1)) ∧ h = h0) := by
  refine Con.of (plainFor_of_name (by first | (simp [plainName, overriddenIn]; done) | decide +kernel)) (L0 := #[.val (.int p1)]) (fun m => by first | (simp [entryFrame, mkF, argsToLocals, Value.category]; done) | rfl) ?_
  intro p e s m below meth c T C S
  refine g_iloadN C S ds_0 (pc' := 1) rfl rfl ?_
  refine g_sipush C S (200 : Int32) ds_1 (pc' := 4) rfl rfl ?_
  refine g_icmp_lt C S ds_4 (pc' := 18) (pf := 7) (by decide) (by decide) rfl (fun hc4 => ?_) (fun hc4 => ?_)
  · refine g_iconst C S (0 : Int32) ds_18 (pc' := 19) rfl rfl ?_
    exact g_retZ C S ds_19 (by decide) (by decide) (by decide) (⟨by unfold own_ok; first | rw [if_pos hc4] | rw [if_neg hc4, if_pos hc11] | rw [if_neg hc4, if_neg hc11], rfl⟩)
  · refine g_iloadN C S ds_7 (pc' := 8) rfl rfl ?_
    refine g_sipush C S (599 : Int32) ds_8 (pc' := 11) rfl rfl ?_
    refine g_icmp_gt C S ds_11 (pc' := 18) (pf := 14) (by decide) (by decide) rfl (fun hc11 => ?_) (fun hc11 => ?_)
    · refine g_iconst C S (0 : Int32) ds_18 (pc' := 19) rfl rfl ?_
      exact g_retZ C S ds_19 (by decide) (by decide) (by decide) (⟨by unfold own_ok; first | rw [if_pos hc4] | rw [if_neg hc4, if_pos hc11] | rw [if_neg hc4, if_neg hc11], rfl⟩)
    · refine g_iconst C S (1 : Int32) ds_14 (pc' := 15) rfl rfl ?_
      refine g_goto C S ds_15 (pc' := 19) (by decide) (by decide) ?_
      exact g_retZ C S ds_19 (by decide) (by decide) (by decide) (⟨by unfold own_ok; first | rw [if_pos hc4] | rw [if_neg hc4, if_pos hc11] | rw [if_neg hc4, if_neg hc11], rfl⟩)
theorem di_0 : decode prog_56_method_1_code 0 = .ok (.aload_n 0, 1) := by decide +kernel
theorem di_1 : decode prog_56_method_1_code 1 = .ok (.invokespecial 1, 3) := by decide +kernel
theorem di_4 : decode prog_56_method_1_code 4 = .ok (.aload_n 0, 1) := by decide +kernel
theorem di_5 : decode prog_56_method_1_code 5 = .ok (.iload_n 1, 1) := by decide +kernel
theorem di_6 : decode prog_56_method_1_code 6 = .ok (.putfield 7, 3) := by decide +kernel
theorem di_9 : decode prog_56_method_1_code 9 = .ok (.aload_n 0, 1) := by decide +kernel
theorem di_10 : decode prog_56_method_1_code 10 = .ok (.aload_n 2, 1) := by decide +kernel
theorem di_11 : decode prog_56_method_1_code 11 = .ok (.putfield 13, 3) := by decide +kernel
theorem di_14 : decode prog_56_method_1_code 14 = .ok (.return_, 1) := by decide +kernel
set_option maxRecDepth 65536 in
set_option maxHeartbeats 40000000 in
theorem c_ini (l : Launch) (Z : State) (a0 : Array Value) (hw : ∀ d ∈ tables_1, d.before a0 Z = true) (a1 : Addr) (p2 : Int32) (h0 : Heap) (n0 : Nat) (u1 u2 : Value) (ga : n0 ≤ a1) (X_a1 : Exa Z h0 a1 "com/example/kindling/kindling/web/Response") (F_status_a1 : Fld Z h0 a1 "com/example/kindling/kindling/web/Response" "status" "I" u1) (F_body_a1 : Fld Z h0 a1 "com/example/kindling/kindling/web/Response" "body" "Ljava/lang/Object;" u2) :
    Con l Z (⟨"com/example/kindling/kindling/web/Response", "<init>", "(ILjava/lang/Object;)V"⟩ : MethodName) prog_56_method_1_code 3 none ({ frames := 1, cells := 0, slots := 0, locals := 12 } : Room) #[(.ref a1), (.int p2), .null] h0 n0 (fun v h => v = none ∧ Keep h0 h [a1] ∧ Exa Z h a1 "com/example/kindling/kindling/web/Response" ∧ Fld Z h a1 "com/example/kindling/kindling/web/Response" "status" "I" (.int p2) ∧ Fld Z h a1 "com/example/kindling/kindling/web/Response" "body" "Ljava/lang/Object;" .null) := by
  refine Con.of (plainFor_of_name (by first | (simp [plainName, overriddenIn]; done) | decide +kernel)) (L0 := #[.val (.ref a1), .val (.int p2), .val .null]) (fun m => by first | (simp [entryFrame, mkF, argsToLocals, Value.category]; done) | rfl) ?_
  intro p e s m below meth c T C S
  have Kp := Keep.refl h0 [a1]
  refine g_aloadN C S di_0 (pc' := 1) rfl rfl rfl ?_
  refine g_initO C S (W := 0) di_1 (hw _ (List.mem_of_getElem? (i := 14) rfl)) (hw _ (List.mem_of_getElem? (i := 15) rfl)) (hw _ (List.mem_of_getElem? (i := 16) rfl)) rfl (by decide) (Nat.le_of_eq rfl) (by decide) (pc' := 4) rfl (fun T1 S => ?_)
  refine g_aloadN C S di_4 (pc' := 5) rfl rfl rfl ?_
  refine g_iloadN C S di_5 (pc' := 6) rfl rfl ?_
  refine g_putF C S di_6 (host := "") (Or.inl (hw _ (List.mem_of_getElem? (i := 17) rfl))) Via.refl F_status_a1 X_a1 (Or.inr ⟨(hw _ (List.mem_of_getElem? (i := 18) rfl)), rfl, rfl⟩) (hw _ (List.mem_of_getElem? (i := 10) rfl)) (ty := .int) (by decide) rfl rfl ga (pc' := 9) rfl (fun T2 h2 S W2 => ?_)
  have X_a1 := X_a1.wr W2
  have F_status_a1 := F_status_a1.same W2
  have F_body_a1 := F_body_a1.other W2 (Or.inr (slot_ne (a0 := a0) (t := (.object "java/lang/Object")) (t' := .int) (Or.inr (hw _ (List.mem_of_getElem? (i := 20) rfl))) (Or.inr (hw _ (List.mem_of_getElem? (i := 18) rfl))) (by decide) (by decide) (by decide)))
  have Kp := Kp.wr W2 (Or.inl (List.mem_of_getElem? (i := 0) rfl))
  refine g_aloadN C S di_9 (pc' := 10) rfl rfl rfl ?_
  refine g_aloadN C S di_10 (pc' := 11) rfl rfl rfl ?_
  refine g_putF C S di_11 (host := "") (Or.inl (hw _ (List.mem_of_getElem? (i := 19) rfl))) Via.refl F_body_a1 X_a1 (Or.inr ⟨(hw _ (List.mem_of_getElem? (i := 20) rfl)), rfl, rfl⟩) (hw _ (List.mem_of_getElem? (i := 10) rfl)) (ty := (.object "java/lang/Object")) (by decide) rfl rfl ga (pc' := 14) rfl (fun T3 h3 S W3 => ?_)
  have X_a1 := X_a1.wr W3
  have F_status_a1 := F_status_a1.other W3 (Or.inr (slot_ne (a0 := a0) (t := .int) (t' := (.object "java/lang/Object")) (Or.inr (hw _ (List.mem_of_getElem? (i := 18) rfl))) (Or.inr (hw _ (List.mem_of_getElem? (i := 20) rfl))) (by decide) (by decide) (by decide)))
  have F_body_a1 := F_body_a1.same W3
  have Kp := Kp.wr W3 (Or.inl (List.mem_of_getElem? (i := 0) rfl))
  exact g_return C S di_14 (by decide) (by decide) (⟨rfl, Kp, X_a1, F_status_a1, F_body_a1⟩)
theorem own_ok1 {p : Int32} (h1 : ¬ p < (200 : Int32)) (h2 : ¬ (599 : Int32) < p) : own_ok p = 1 := by unfold own_ok; rw [if_neg h1, if_neg h2]
theorem pd_0 : parseMethodDescriptor "(I)Z" = some ⟨[.int], some .boolean⟩ := by decide +kernel
theorem pd_1 : parseMethodDescriptor "(ILjava/lang/Object;)V" = some ⟨[.int, (.object "java/lang/Object")], none⟩ := by decide +kernel
theorem dm_0 : decode prog_56_method_2_code 0 = .ok (.iload_n 0, 1) := by decide +kernel
theorem dm_1 : decode prog_56_method_2_code 1 = .ok (.invokestatic 17, 3) := by decide +kernel
theorem dm_4 : decode prog_56_method_2_code 4 = .ok (.ifCond .ne 17, 3) := by decide +kernel
theorem dm_21 : decode prog_56_method_2_code 21 = .ok (.new 8, 3) := by decide +kernel
theorem dm_24 : decode prog_56_method_2_code 24 = .ok (.dup, 1) := by decide +kernel
theorem dm_25 : decode prog_56_method_2_code 25 = .ok (.iload_n 0, 1) := by decide +kernel
theorem dm_26 : decode prog_56_method_2_code 26 = .ok (.aconst_null, 1) := by decide +kernel
theorem dm_27 : decode prog_56_method_2_code 27 = .ok (.invokespecial 30, 3) := by decide +kernel
theorem dm_30 : decode prog_56_method_2_code 30 = .ok (.areturn, 1) := by decide +kernel
set_option maxRecDepth 65536 in
set_option maxHeartbeats 40000000 in
theorem c_mk (l : Launch) (Z : State) (a0 : Array Value) (hw : ∀ d ∈ tables_1, d.before a0 Z = true) (p1 : Int32) (h0 : Heap) (n0 : Nat) (Zn : n0 ≤ h0.size) (hlo : ¬ p1 < (200 : Int32)) (hhi : ¬ (599 : Int32) < p1) :
    Con l Z (⟨"com/example/kindling/kindling/web/Response", "status", "(I)Lcom/example/kindling/kindling/web/Response;"⟩ : MethodName) prog_56_method_2_code 1 (some (.object "com/example/kindling/kindling/web/Response")) ({ frames := 2, cells := 1, slots := 2, locals := 28 } : Room) #[(.int p1)] h0 n0 (fun v h => ∃ b : Addr, v = some (.ref b) ∧ n0 ≤ b ∧ Keep h0 h [] ∧ Exa Z h b "com/example/kindling/kindling/web/Response" ∧ Fld Z h b "com/example/kindling/kindling/web/Response" "status" "I" (.int p1) ∧ Fld Z h b "com/example/kindling/kindling/web/Response" "body" "Ljava/lang/Object;" .null) := by
  refine Con.of (plainFor_of_name (by first | (simp [plainName, overriddenIn]; done) | decide +kernel)) (L0 := #[.val (.int p1)]) (fun m => by first | (simp [entryFrame, mkF, argsToLocals, Value.category]; done) | rfl) ?_
  intro p e s m below meth c T C S
  have Kp := Keep.refl h0 []
  refine g_iloadN C S dm_0 (pc' := 1) rfl rfl ?_
  refine g_callS C S (rm := ({ frames := 0, cells := 0, slots := 0, locals := 0 } : Room)) (W := 0) dm_1 (hw _ (List.mem_of_getElem? (i := 8) rfl)) (hw _ (List.mem_of_getElem? (i := 1) rfl)) (hw _ (List.mem_of_getElem? (i := 2) rfl)) (hw _ (List.mem_of_getElem? (i := 3) rfl)) (by decide) (c_isa l Z a0 hw p1 h0 n0) (argsL := [(.int p1)]) (r := []) rfl (lenOf pd_0 rfl) rfl (Nat.le_of_eq rfl) (by decide) (by decide) (by decide) (by decide) (pc' := 4) rfl (fun T4 h4 v4 q4 S => ?_)
  obtain ⟨rfl, e4⟩ := q4; rw [e4] at S
  show Gl p e below s _ n0 _ T4 (mkF m 4 #[.val (.int p1)] [(.int (own_ok p1))])
  refine g_if_ne C S dm_4 (pc' := 21) (pf := 7) (by decide) (by decide) rfl (fun hc4 => ?_) (fun hc4 => absurd (hc4.symm.trans (own_ok1 hlo hhi)) (by decide))
  refine g_new C S dm_21 (hw _ (List.mem_of_getElem? (i := 9) rfl)) (hw _ (List.mem_of_getElem? (i := 10) rfl)) (hw _ (List.mem_of_getElem? (i := 2) rfl)) (by decide) (by decide) (pc' := 24) rfl (fun T5 h5 a5 S g5 E5 X5 D5 => ?_)
  have sz_a5 : h0.size ≤ a5 := ge_of g5 Kp.1
  have ge_a5 : n0 ≤ a5 := ge_of g5 Zn
  have Kp := Kp.ext E5
  have Zn := Nat.le_trans Zn E5.1
  have F_status_a5 : Fld Z h5 a5 "com/example/kindling/kindling/web/Response" "status" "I" (.int (0 : Int32)) := D5 (Or.inr (hw _ (List.mem_of_getElem? (i := 18) rfl))) (ty := .int) (by decide)
  have F_body_a5 : Fld Z h5 a5 "com/example/kindling/kindling/web/Response" "body" "Ljava/lang/Object;" .null := D5 (Or.inr (hw _ (List.mem_of_getElem? (i := 20) rfl))) (ty := (.object "java/lang/Object")) (by decide)
  refine g_dup C S dm_24 (pc' := 25) rfl rfl ?_
  refine g_iloadN C S dm_25 (pc' := 26) rfl rfl ?_
  refine g_aconst_null C S dm_26 (pc' := 27) rfl ?_
  refine g_callI C S (rm := ({ frames := 1, cells := 0, slots := 0, locals := 12 } : Room)) (W := 1) dm_27 rfl (hw _ (List.mem_of_getElem? (i := 11) rfl)) (hw _ (List.mem_of_getElem? (i := 12) rfl)) (hw _ (List.mem_of_getElem? (i := 2) rfl)) (hw _ (List.mem_of_getElem? (i := 13) rfl)) (by decide) (c_ini l Z a0 hw a5 p1 h5 n0 _ _ ge_a5 X5 F_status_a5 F_body_a5) (argsL := [(.int p1), .null]) (r := [(.ref a5)]) rfl (lenOf pd_1 rfl) rfl (Nat.le_of_eq rfl) (by decide) (by decide) (by decide) (by decide) (pc' := 30) rfl (fun T6 h6 v6 q6 S => ?_)
  obtain ⟨rfl, K6, X6, F_status_a5, F_body_a5⟩ := q6
  have Kp := Kp.trans K6 (allS (Or.inr sz_a5) all0)
  have Zn := Nat.le_trans Zn K6.1
  show Gl p e below s _ n0 _ T6 (mkF m 30 #[.val (.int p1)] [(.ref a5)])
  exact g_retA C S dm_30 rfl rfl rfl (by decide) (by decide) (⟨_, rfl, ge_a5, Kp, X6, F_status_a5, F_body_a5⟩)
theorem dg_0 : decode prog_56_method_4_code 0 = .ok (.aload_n 0, 1) := by decide +kernel
theorem dg_1 : decode prog_56_method_4_code 1 = .ok (.getfield 7, 3) := by decide +kernel
theorem dg_4 : decode prog_56_method_4_code 4 = .ok (.ireturn, 1) := by decide +kernel
set_option maxRecDepth 65536 in
set_option maxHeartbeats 40000000 in
theorem c_st (l : Launch) (Z : State) (a0 : Array Value) (hw : ∀ d ∈ tables_1, d.before a0 Z = true) (a1 : Addr) (h0 : Heap) (n0 : Nat) (p2 : Int32) (F_status_a1 : Fld Z h0 a1 "com/example/kindling/kindling/web/Response" "status" "I" (.int p2)) :
    Con l Z (⟨"com/example/kindling/kindling/web/Response", "status", "()I"⟩ : MethodName) prog_56_method_4_code 1 (some .int) ({ frames := 0, cells := 0, slots := 0, locals := 0 } : Room) #[(.ref a1)] h0 n0 (fun v h => v = some (.int p2) ∧ h = h0) := by
  refine Con.of (plainFor_of_name (by first | (simp [plainName, overriddenIn]; done) | decide +kernel)) (L0 := #[.val (.ref a1)]) (fun m => by first | (simp [entryFrame, mkF, argsToLocals, Value.category]; done) | rfl) ?_
  intro p e s m below meth c T C S
  refine g_aloadN C S dg_0 (pc' := 1) rfl rfl rfl ?_
  refine g_getF C S dg_1 (host := "") (Or.inl (hw _ (List.mem_of_getElem? (i := 17) rfl))) Via.refl F_status_a1 (pc' := 4) rfl (fun T7 S => ?_)
  exact g_retI C S dg_4 (by decide) (by decide) (⟨rfl, rfl⟩)
theorem db_0 : decode prog_56_method_5_code 0 = .ok (.aload_n 0, 1) := by decide +kernel
theorem db_1 : decode prog_56_method_5_code 1 = .ok (.getfield 13, 3) := by decide +kernel
theorem db_4 : decode prog_56_method_5_code 4 = .ok (.areturn, 1) := by decide +kernel
set_option maxRecDepth 65536 in
set_option maxHeartbeats 40000000 in
theorem c_bd (l : Launch) (Z : State) (a0 : Array Value) (hw : ∀ d ∈ tables_1, d.before a0 Z = true) (a1 : Addr) (h0 : Heap) (n0 : Nat) (F_body_a1 : Fld Z h0 a1 "com/example/kindling/kindling/web/Response" "body" "Ljava/lang/Object;" .null) :
    Con l Z (⟨"com/example/kindling/kindling/web/Response", "body", "()Ljava/lang/Object;"⟩ : MethodName) prog_56_method_5_code 1 (some (.object "java/lang/Object")) ({ frames := 0, cells := 0, slots := 0, locals := 0 } : Room) #[(.ref a1)] h0 n0 (fun v h => v = some .null ∧ h = h0) := by
  refine Con.of (plainFor_of_name (by first | (simp [plainName, overriddenIn]; done) | decide +kernel)) (L0 := #[.val (.ref a1)]) (fun m => by first | (simp [entryFrame, mkF, argsToLocals, Value.category]; done) | rfl) ?_
  intro p e s m below meth c T C S
  refine g_aloadN C S db_0 (pc' := 1) rfl rfl rfl ?_
  refine g_getF C S db_1 (host := "") (Or.inl (hw _ (List.mem_of_getElem? (i := 19) rfl))) Via.refl F_body_a1 (pc' := 4) rfl (fun T8 S => ?_)
  exact g_retA C S db_4 rfl rfl rfl (by decide) (by decide) (⟨rfl, rfl⟩)
theorem own_y (p2 : Int32) : 200 ≤ ((200 : Int32) + ((p2 &&& (2147483647 : Int32)) % (400 : Int32))).toInt ∧ ((200 : Int32) + ((p2 &&& (2147483647 : Int32)) % (400 : Int32))).toInt ≤ 599 := by
  have e1 : (p2 &&& (2147483647 : Int32)).toInt = p2.toInt % 2 ^ 31 := Jvm.Kit.i32_mask p2 _ (k := 31) (by decide) (by decide)
  have e2 : ((p2 &&& (2147483647 : Int32)) % (400 : Int32)).toInt = (p2 &&& (2147483647 : Int32)).toInt % 400 := Jvm.Kit.i32_rem_nonneg (by rw [e1]; omega)
  have e3 : (200 : Int32).toInt = 200 := by decide
  rw [Jvm.Kit.i32_add (by omega) (by omega)]; omega
theorem own_ylo (p2 : Int32) : ¬ ((200 : Int32) + ((p2 &&& (2147483647 : Int32)) % (400 : Int32))) < (200 : Int32) := by
  rw [Int32.lt_iff_toInt_lt]; have := own_y p2; have e3 : (200 : Int32).toInt = 200 := by decide
  omega
theorem own_yhi (p2 : Int32) : ¬ (599 : Int32) < ((200 : Int32) + ((p2 &&& (2147483647 : Int32)) % (400 : Int32))) := by
  rw [Int32.lt_iff_toInt_lt]; have := own_y p2; have e3 : (599 : Int32).toInt = 599 := by decide
  omega
theorem pd_2 : parseMethodDescriptor "(I)Lcom/example/kindling/kindling/web/Response;" = some ⟨[.int], some (.object "com/example/kindling/kindling/web/Response")⟩ := by decide +kernel
theorem pd_3 : parseMethodDescriptor "()I" = some ⟨[], some .int⟩ := by decide +kernel
theorem pd_4 : parseMethodDescriptor "()Ljava/lang/Object;" = some ⟨[], some (.object "java/lang/Object")⟩ := by decide +kernel
set_option maxRecDepth 65536 in
set_option maxHeartbeats 40000000 in
theorem c_law (l : Launch) (Z : State) (a0 : Array Value) (hw : ∀ d ∈ tables_1, d.before a0 Z = true) (p1 : Int32) (p2 : Int32) (h0 : Heap) (n0 : Nat) (Zn : n0 ≤ h0.size) :
    Con l Z x code maxLocals ret room_1 #[(.int p1), (.int p2)] h0 n0 (fun v h => v = some (.int 1)) := by
  refine Con.of (plainFor_of_name (by first | (simp [plainName, overriddenIn, x]; done) | decide +kernel)) (L0 := #[.val (.int p1), .val (.int p2), .unset, .unset, .unset]) (fun m => by first | (simp [entryFrame, mkF, argsToLocals, Value.category, maxLocals]; done) | rfl) ?_
  intro p e s m below meth c T C S
  refine g_iloadN C S at_0 (pc' := 1) rfl rfl ?_
  refine g_sipush C S (200 : Int32) at_1 (pc' := 4) rfl rfl ?_
  refine g_icmp_lt C S at_4 (pc' := 18) (pf := 7) (by decide) (by decide) rfl (fun hc4 => ?_) (fun hc4 => ?_)
  · refine g_iconst C S (0 : Int32) at_18 (pc' := 19) rfl rfl ?_
    refine g_istoreN C S at_19 (pc' := 20) rfl (L' := #[.val (.int p1), .val (.int p2), .val (.int (0 : Int32)), .unset, .unset]) rfl ?_
    refine g_iloadN C S at_20 (pc' := 21) rfl rfl ?_
    refine g_callS C S (rm := ({ frames := 0, cells := 0, slots := 0, locals := 0 } : Room)) (W := 0) at_21 (hw _ (List.mem_of_getElem? (i := 0) rfl)) (hw _ (List.mem_of_getElem? (i := 1) rfl)) (hw _ (List.mem_of_getElem? (i := 2) rfl)) (hw _ (List.mem_of_getElem? (i := 3) rfl)) (by decide) (c_isa l Z a0 hw p1 h0 n0) (argsL := [(.int p1)]) (r := []) rfl (lenOf pd_0 rfl) rfl (Nat.le_of_eq rfl) (by decide) (by decide) (by decide) (by decide) (pc' := 24) rfl (fun T9 h9 v9 q9 S => ?_)
    obtain ⟨rfl, e9⟩ := q9; rw [e9] at S
    show Gl p e below s _ n0 _ T9 (mkF m 24 #[.val (.int p1), .val (.int p2), .val (.int (0 : Int32)), .unset, .unset] [(.int (own_ok p1))])
    refine g_iloadN C S at_24 (pc' := 25) rfl rfl ?_
    refine g_icmp_eq C S at_25 (pc' := 30) (pf := 28) (by decide) (by decide) rfl (fun hc25 => ?_) (fun hc25 => absurd (by unfold own_ok; first | rw [if_pos hc4] | rw [if_neg hc4, if_pos hc11] | rw [if_neg hc4, if_neg hc11]) hc25)
    refine g_iloadN C S at_30 (pc' := 31) rfl rfl ?_
    refine g_if_eq C S at_31 (pc' := 38) (pf := 34) (by decide) (by decide) rfl (fun hc31 => ?_) (fun hc31 => absurd rfl hc31)
    refine g_sipush C S (200 : Int32) at_38 (pc' := 41) rfl rfl ?_
    refine g_iloadN C S at_41 (pc' := 42) rfl rfl ?_
    refine g_ldc C S at_42 (hw _ (List.mem_of_getElem? (i := 4) rfl)) (pc' := 44) rfl ?_
    refine g_iand C S at_44 (pc' := 45) rfl ?_
    refine g_sipush C S (400 : Int32) at_45 (pc' := 48) rfl rfl ?_
    refine g_irem C S at_48 (pc' := 49) rfl (by decide) ?_
    refine g_iadd C S at_49 (pc' := 50) rfl ?_
    refine g_istoreN C S at_50 (pc' := 51) rfl (L' := #[.val (.int p1), .val (.int p2), .val (.int (0 : Int32)), .val (.int ((200 : Int32) + ((p2 &&& (2147483647 : Int32)) % (400 : Int32)))), .unset]) rfl ?_
    refine g_iloadN C S at_51 (pc' := 52) rfl rfl ?_
    refine g_callS C S (rm := ({ frames := 2, cells := 1, slots := 2, locals := 28 } : Room)) (W := 0) at_52 (hw _ (List.mem_of_getElem? (i := 5) rfl)) (hw _ (List.mem_of_getElem? (i := 6) rfl)) (hw _ (List.mem_of_getElem? (i := 2) rfl)) (hw _ (List.mem_of_getElem? (i := 7) rfl)) (by decide) (c_mk l Z a0 hw ((200 : Int32) + ((p2 &&& (2147483647 : Int32)) % (400 : Int32))) h0 n0 Zn (own_ylo p2) (own_yhi p2)) (argsL := [(.int ((200 : Int32) + ((p2 &&& (2147483647 : Int32)) % (400 : Int32))))]) (r := []) rfl (lenOf pd_2 rfl) rfl (Nat.le_of_eq rfl) (by decide) (by decide) (by decide) (by decide) (pc' := 55) rfl (fun T10 h10 v10 q10 S => ?_)
    obtain ⟨b10, rfl, ge_b10, K10, X10, F_status_b10, F_body_b10⟩ := q10
    have Zn := Nat.le_trans Zn K10.1
    show Gl p e below s _ n0 _ T10 (mkF m 55 #[.val (.int p1), .val (.int p2), .val (.int (0 : Int32)), .val (.int ((200 : Int32) + ((p2 &&& (2147483647 : Int32)) % (400 : Int32)))), .unset] [(.ref b10)])
    refine g_astore C S at_55 (pc' := 57) rfl rfl (L' := #[.val (.int p1), .val (.int p2), .val (.int (0 : Int32)), .val (.int ((200 : Int32) + ((p2 &&& (2147483647 : Int32)) % (400 : Int32)))), .val (.ref b10)]) rfl ?_
    refine g_aload C S at_57 (pc' := 59) rfl rfl rfl ?_
    refine g_ifnonnull_ref C S at_59 (pc' := 64) (by decide) (by decide) ?_
    refine g_aload C S at_64 (pc' := 66) rfl rfl rfl ?_
    refine g_callV C S (rm := ({ frames := 0, cells := 0, slots := 0, locals := 0 } : Room)) (W := 0) at_66 (hw _ (List.mem_of_getElem? (i := 21) rfl)) (hw _ (List.mem_of_getElem? (i := 22) rfl)) (notFace_of_selects (args := #[]) (mvT C.2.1 (hw _ (List.mem_of_getElem? (i := 24) rfl)))) (hw _ (List.mem_of_getElem? (i := 24) rfl)) (hw _ (List.mem_of_getElem? (i := 23) rfl)) (hw _ (List.mem_of_getElem? (i := 2) rfl)) (hw _ (List.mem_of_getElem? (i := 25) rfl)) (by decide) rfl X10 (c_st l Z a0 hw b10 h10 n0 _ F_status_b10) (argsL := []) (r := []) rfl (lenOf pd_3 rfl) rfl (Nat.le_of_eq rfl) (by decide) (by decide) (by decide) (by decide) (pc' := 69) rfl (fun T11 h11 v11 q11 S => ?_)
    obtain ⟨rfl, e11⟩ := q11; rw [e11] at S
    show Gl p e below s _ n0 _ T11 (mkF m 69 #[.val (.int p1), .val (.int p2), .val (.int (0 : Int32)), .val (.int ((200 : Int32) + ((p2 &&& (2147483647 : Int32)) % (400 : Int32)))), .val (.ref b10)] [(.int ((200 : Int32) + ((p2 &&& (2147483647 : Int32)) % (400 : Int32))))])
    refine g_iloadN C S at_69 (pc' := 70) rfl rfl ?_
    refine g_icmp_eq C S at_70 (pc' := 75) (pf := 73) (by decide) (by decide) rfl (fun hc70 => ?_) (fun hc70 => absurd rfl hc70)
    refine g_aload C S at_75 (pc' := 77) rfl rfl rfl ?_
    refine g_callV C S (rm := ({ frames := 0, cells := 0, slots := 0, locals := 0 } : Room)) (W := 0) at_77 (hw _ (List.mem_of_getElem? (i := 26) rfl)) (hw _ (List.mem_of_getElem? (i := 27) rfl)) (notFace_of_selects (args := #[]) (mvT C.2.1 (hw _ (List.mem_of_getElem? (i := 29) rfl)))) (hw _ (List.mem_of_getElem? (i := 29) rfl)) (hw _ (List.mem_of_getElem? (i := 28) rfl)) (hw _ (List.mem_of_getElem? (i := 2) rfl)) (hw _ (List.mem_of_getElem? (i := 30) rfl)) (by decide) rfl X10 (c_bd l Z a0 hw b10 h10 n0 F_body_b10) (argsL := []) (r := []) rfl (lenOf pd_4 rfl) rfl (Nat.le_of_eq rfl) (by decide) (by decide) (by decide) (by decide) (pc' := 80) rfl (fun T12 h12 v12 q12 S => ?_)
    obtain ⟨rfl, e12⟩ := q12; rw [e12] at S
    show Gl p e below s _ n0 _ T12 (mkF m 80 #[.val (.int p1), .val (.int p2), .val (.int (0 : Int32)), .val (.int ((200 : Int32) + ((p2 &&& (2147483647 : Int32)) % (400 : Int32)))), .val (.ref b10)] [.null])
    refine g_ifnonnull_null C S at_80 (pf := 83) rfl ?_
    refine g_iconst C S (1 : Int32) at_83 (pc' := 84) rfl rfl ?_
    refine g_goto C S at_84 (pc' := 88) (by decide) (by decide) ?_
    exact g_retZ C S at_88 (by decide) (by decide) (by decide) (rfl)
  · refine g_iloadN C S at_7 (pc' := 8) rfl rfl ?_
    refine g_sipush C S (599 : Int32) at_8 (pc' := 11) rfl rfl ?_
    refine g_icmp_gt C S at_11 (pc' := 18) (pf := 14) (by decide) (by decide) rfl (fun hc11 => ?_) (fun hc11 => ?_)
    · refine g_iconst C S (0 : Int32) at_18 (pc' := 19) rfl rfl ?_
      refine g_istoreN C S at_19 (pc' := 20) rfl (L' := #[.val (.int p1), .val (.int p2), .val (.int (0 : Int32)), .unset, .unset]) rfl ?_
      refine g_iloadN C S at_20 (pc' := 21) rfl rfl ?_
      refine g_callS C S (rm := ({ frames := 0, cells := 0, slots := 0, locals := 0 } : Room)) (W := 0) at_21 (hw _ (List.mem_of_getElem? (i := 0) rfl)) (hw _ (List.mem_of_getElem? (i := 1) rfl)) (hw _ (List.mem_of_getElem? (i := 2) rfl)) (hw _ (List.mem_of_getElem? (i := 3) rfl)) (by decide) (c_isa l Z a0 hw p1 h0 n0) (argsL := [(.int p1)]) (r := []) rfl (lenOf pd_0 rfl) rfl (Nat.le_of_eq rfl) (by decide) (by decide) (by decide) (by decide) (pc' := 24) rfl (fun T13 h13 v13 q13 S => ?_)
      obtain ⟨rfl, e13⟩ := q13; rw [e13] at S
      show Gl p e below s _ n0 _ T13 (mkF m 24 #[.val (.int p1), .val (.int p2), .val (.int (0 : Int32)), .unset, .unset] [(.int (own_ok p1))])
      refine g_iloadN C S at_24 (pc' := 25) rfl rfl ?_
      refine g_icmp_eq C S at_25 (pc' := 30) (pf := 28) (by decide) (by decide) rfl (fun hc25 => ?_) (fun hc25 => absurd (by unfold own_ok; first | rw [if_pos hc4] | rw [if_neg hc4, if_pos hc11] | rw [if_neg hc4, if_neg hc11]) hc25)
      refine g_iloadN C S at_30 (pc' := 31) rfl rfl ?_
      refine g_if_eq C S at_31 (pc' := 38) (pf := 34) (by decide) (by decide) rfl (fun hc31 => ?_) (fun hc31 => absurd rfl hc31)
      refine g_sipush C S (200 : Int32) at_38 (pc' := 41) rfl rfl ?_
      refine g_iloadN C S at_41 (pc' := 42) rfl rfl ?_
      refine g_ldc C S at_42 (hw _ (List.mem_of_getElem? (i := 4) rfl)) (pc' := 44) rfl ?_
      refine g_iand C S at_44 (pc' := 45) rfl ?_
      refine g_sipush C S (400 : Int32) at_45 (pc' := 48) rfl rfl ?_
      refine g_irem C S at_48 (pc' := 49) rfl (by decide) ?_
      refine g_iadd C S at_49 (pc' := 50) rfl ?_
      refine g_istoreN C S at_50 (pc' := 51) rfl (L' := #[.val (.int p1), .val (.int p2), .val (.int (0 : Int32)), .val (.int ((200 : Int32) + ((p2 &&& (2147483647 : Int32)) % (400 : Int32)))), .unset]) rfl ?_
      refine g_iloadN C S at_51 (pc' := 52) rfl rfl ?_
      refine g_callS C S (rm := ({ frames := 2, cells := 1, slots := 2, locals := 28 } : Room)) (W := 0) at_52 (hw _ (List.mem_of_getElem? (i := 5) rfl)) (hw _ (List.mem_of_getElem? (i := 6) rfl)) (hw _ (List.mem_of_getElem? (i := 2) rfl)) (hw _ (List.mem_of_getElem? (i := 7) rfl)) (by decide) (c_mk l Z a0 hw ((200 : Int32) + ((p2 &&& (2147483647 : Int32)) % (400 : Int32))) h0 n0 Zn (own_ylo p2) (own_yhi p2)) (argsL := [(.int ((200 : Int32) + ((p2 &&& (2147483647 : Int32)) % (400 : Int32))))]) (r := []) rfl (lenOf pd_2 rfl) rfl (Nat.le_of_eq rfl) (by decide) (by decide) (by decide) (by decide) (pc' := 55) rfl (fun T14 h14 v14 q14 S => ?_)
      obtain ⟨b14, rfl, ge_b14, K14, X14, F_status_b14, F_body_b14⟩ := q14
      have Zn := Nat.le_trans Zn K14.1
      show Gl p e below s _ n0 _ T14 (mkF m 55 #[.val (.int p1), .val (.int p2), .val (.int (0 : Int32)), .val (.int ((200 : Int32) + ((p2 &&& (2147483647 : Int32)) % (400 : Int32)))), .unset] [(.ref b14)])
      refine g_astore C S at_55 (pc' := 57) rfl rfl (L' := #[.val (.int p1), .val (.int p2), .val (.int (0 : Int32)), .val (.int ((200 : Int32) + ((p2 &&& (2147483647 : Int32)) % (400 : Int32)))), .val (.ref b14)]) rfl ?_
      refine g_aload C S at_57 (pc' := 59) rfl rfl rfl ?_
      refine g_ifnonnull_ref C S at_59 (pc' := 64) (by decide) (by decide) ?_
      refine g_aload C S at_64 (pc' := 66) rfl rfl rfl ?_
      refine g_callV C S (rm := ({ frames := 0, cells := 0, slots := 0, locals := 0 } : Room)) (W := 0) at_66 (hw _ (List.mem_of_getElem? (i := 21) rfl)) (hw _ (List.mem_of_getElem? (i := 22) rfl)) (notFace_of_selects (args := #[]) (mvT C.2.1 (hw _ (List.mem_of_getElem? (i := 24) rfl)))) (hw _ (List.mem_of_getElem? (i := 24) rfl)) (hw _ (List.mem_of_getElem? (i := 23) rfl)) (hw _ (List.mem_of_getElem? (i := 2) rfl)) (hw _ (List.mem_of_getElem? (i := 25) rfl)) (by decide) rfl X14 (c_st l Z a0 hw b14 h14 n0 _ F_status_b14) (argsL := []) (r := []) rfl (lenOf pd_3 rfl) rfl (Nat.le_of_eq rfl) (by decide) (by decide) (by decide) (by decide) (pc' := 69) rfl (fun T15 h15 v15 q15 S => ?_)
      obtain ⟨rfl, e15⟩ := q15; rw [e15] at S
      show Gl p e below s _ n0 _ T15 (mkF m 69 #[.val (.int p1), .val (.int p2), .val (.int (0 : Int32)), .val (.int ((200 : Int32) + ((p2 &&& (2147483647 : Int32)) % (400 : Int32)))), .val (.ref b14)] [(.int ((200 : Int32) + ((p2 &&& (2147483647 : Int32)) % (400 : Int32))))])
      refine g_iloadN C S at_69 (pc' := 70) rfl rfl ?_
      refine g_icmp_eq C S at_70 (pc' := 75) (pf := 73) (by decide) (by decide) rfl (fun hc70 => ?_) (fun hc70 => absurd rfl hc70)
      refine g_aload C S at_75 (pc' := 77) rfl rfl rfl ?_
      refine g_callV C S (rm := ({ frames := 0, cells := 0, slots := 0, locals := 0 } : Room)) (W := 0) at_77 (hw _ (List.mem_of_getElem? (i := 26) rfl)) (hw _ (List.mem_of_getElem? (i := 27) rfl)) (notFace_of_selects (args := #[]) (mvT C.2.1 (hw _ (List.mem_of_getElem? (i := 29) rfl)))) (hw _ (List.mem_of_getElem? (i := 29) rfl)) (hw _ (List.mem_of_getElem? (i := 28) rfl)) (hw _ (List.mem_of_getElem? (i := 2) rfl)) (hw _ (List.mem_of_getElem? (i := 30) rfl)) (by decide) rfl X14 (c_bd l Z a0 hw b14 h14 n0 F_body_b14) (argsL := []) (r := []) rfl (lenOf pd_4 rfl) rfl (Nat.le_of_eq rfl) (by decide) (by decide) (by decide) (by decide) (pc' := 80) rfl (fun T16 h16 v16 q16 S => ?_)
      obtain ⟨rfl, e16⟩ := q16; rw [e16] at S
      show Gl p e below s _ n0 _ T16 (mkF m 80 #[.val (.int p1), .val (.int p2), .val (.int (0 : Int32)), .val (.int ((200 : Int32) + ((p2 &&& (2147483647 : Int32)) % (400 : Int32)))), .val (.ref b14)] [.null])
      refine g_ifnonnull_null C S at_80 (pf := 83) rfl ?_
      refine g_iconst C S (1 : Int32) at_83 (pc' := 84) rfl rfl ?_
      refine g_goto C S at_84 (pc' := 88) (by decide) (by decide) ?_
      exact g_retZ C S at_88 (by decide) (by decide) (by decide) (rfl)
    · refine g_iconst C S (1 : Int32) at_14 (pc' := 15) rfl rfl ?_
      refine g_goto C S at_15 (pc' := 19) (by decide) (by decide) ?_
      refine g_istoreN C S at_19 (pc' := 20) rfl (L' := #[.val (.int p1), .val (.int p2), .val (.int (1 : Int32)), .unset, .unset]) rfl ?_
      refine g_iloadN C S at_20 (pc' := 21) rfl rfl ?_
      refine g_callS C S (rm := ({ frames := 0, cells := 0, slots := 0, locals := 0 } : Room)) (W := 0) at_21 (hw _ (List.mem_of_getElem? (i := 0) rfl)) (hw _ (List.mem_of_getElem? (i := 1) rfl)) (hw _ (List.mem_of_getElem? (i := 2) rfl)) (hw _ (List.mem_of_getElem? (i := 3) rfl)) (by decide) (c_isa l Z a0 hw p1 h0 n0) (argsL := [(.int p1)]) (r := []) rfl (lenOf pd_0 rfl) rfl (Nat.le_of_eq rfl) (by decide) (by decide) (by decide) (by decide) (pc' := 24) rfl (fun T17 h17 v17 q17 S => ?_)
      obtain ⟨rfl, e17⟩ := q17; rw [e17] at S
      show Gl p e below s _ n0 _ T17 (mkF m 24 #[.val (.int p1), .val (.int p2), .val (.int (1 : Int32)), .unset, .unset] [(.int (own_ok p1))])
      refine g_iloadN C S at_24 (pc' := 25) rfl rfl ?_
      refine g_icmp_eq C S at_25 (pc' := 30) (pf := 28) (by decide) (by decide) rfl (fun hc25 => ?_) (fun hc25 => absurd (by unfold own_ok; first | rw [if_pos hc4] | rw [if_neg hc4, if_pos hc11] | rw [if_neg hc4, if_neg hc11]) hc25)
      refine g_iloadN C S at_30 (pc' := 31) rfl rfl ?_
      refine g_if_eq C S at_31 (pc' := 38) (pf := 34) (by decide) (by decide) rfl (fun hc31 => absurd hc31 (by decide)) (fun hc31 => ?_)
      refine g_iloadN C S at_34 (pc' := 35) rfl rfl ?_
      refine g_goto C S at_35 (pc' := 50) (by decide) (by decide) ?_
      refine g_istoreN C S at_50 (pc' := 51) rfl (L' := #[.val (.int p1), .val (.int p2), .val (.int (1 : Int32)), .val (.int p1), .unset]) rfl ?_
      refine g_iloadN C S at_51 (pc' := 52) rfl rfl ?_
      refine g_callS C S (rm := ({ frames := 2, cells := 1, slots := 2, locals := 28 } : Room)) (W := 0) at_52 (hw _ (List.mem_of_getElem? (i := 5) rfl)) (hw _ (List.mem_of_getElem? (i := 6) rfl)) (hw _ (List.mem_of_getElem? (i := 2) rfl)) (hw _ (List.mem_of_getElem? (i := 7) rfl)) (by decide) (c_mk l Z a0 hw p1 h0 n0 Zn hc4 hc11) (argsL := [(.int p1)]) (r := []) rfl (lenOf pd_2 rfl) rfl (Nat.le_of_eq rfl) (by decide) (by decide) (by decide) (by decide) (pc' := 55) rfl (fun T18 h18 v18 q18 S => ?_)
      obtain ⟨b18, rfl, ge_b18, K18, X18, F_status_b18, F_body_b18⟩ := q18
      have Zn := Nat.le_trans Zn K18.1
      show Gl p e below s _ n0 _ T18 (mkF m 55 #[.val (.int p1), .val (.int p2), .val (.int (1 : Int32)), .val (.int p1), .unset] [(.ref b18)])
      refine g_astore C S at_55 (pc' := 57) rfl rfl (L' := #[.val (.int p1), .val (.int p2), .val (.int (1 : Int32)), .val (.int p1), .val (.ref b18)]) rfl ?_
      refine g_aload C S at_57 (pc' := 59) rfl rfl rfl ?_
      refine g_ifnonnull_ref C S at_59 (pc' := 64) (by decide) (by decide) ?_
      refine g_aload C S at_64 (pc' := 66) rfl rfl rfl ?_
      refine g_callV C S (rm := ({ frames := 0, cells := 0, slots := 0, locals := 0 } : Room)) (W := 0) at_66 (hw _ (List.mem_of_getElem? (i := 21) rfl)) (hw _ (List.mem_of_getElem? (i := 22) rfl)) (notFace_of_selects (args := #[]) (mvT C.2.1 (hw _ (List.mem_of_getElem? (i := 24) rfl)))) (hw _ (List.mem_of_getElem? (i := 24) rfl)) (hw _ (List.mem_of_getElem? (i := 23) rfl)) (hw _ (List.mem_of_getElem? (i := 2) rfl)) (hw _ (List.mem_of_getElem? (i := 25) rfl)) (by decide) rfl X18 (c_st l Z a0 hw b18 h18 n0 _ F_status_b18) (argsL := []) (r := []) rfl (lenOf pd_3 rfl) rfl (Nat.le_of_eq rfl) (by decide) (by decide) (by decide) (by decide) (pc' := 69) rfl (fun T19 h19 v19 q19 S => ?_)
      obtain ⟨rfl, e19⟩ := q19; rw [e19] at S
      show Gl p e below s _ n0 _ T19 (mkF m 69 #[.val (.int p1), .val (.int p2), .val (.int (1 : Int32)), .val (.int p1), .val (.ref b18)] [(.int p1)])
      refine g_iloadN C S at_69 (pc' := 70) rfl rfl ?_
      refine g_icmp_eq C S at_70 (pc' := 75) (pf := 73) (by decide) (by decide) rfl (fun hc70 => ?_) (fun hc70 => absurd rfl hc70)
      refine g_aload C S at_75 (pc' := 77) rfl rfl rfl ?_
      refine g_callV C S (rm := ({ frames := 0, cells := 0, slots := 0, locals := 0 } : Room)) (W := 0) at_77 (hw _ (List.mem_of_getElem? (i := 26) rfl)) (hw _ (List.mem_of_getElem? (i := 27) rfl)) (notFace_of_selects (args := #[]) (mvT C.2.1 (hw _ (List.mem_of_getElem? (i := 29) rfl)))) (hw _ (List.mem_of_getElem? (i := 29) rfl)) (hw _ (List.mem_of_getElem? (i := 28) rfl)) (hw _ (List.mem_of_getElem? (i := 2) rfl)) (hw _ (List.mem_of_getElem? (i := 30) rfl)) (by decide) rfl X18 (c_bd l Z a0 hw b18 h18 n0 F_body_b18) (argsL := []) (r := []) rfl (lenOf pd_4 rfl) rfl (Nat.le_of_eq rfl) (by decide) (by decide) (by decide) (by decide) (pc' := 80) rfl (fun T20 h20 v20 q20 S => ?_)
      obtain ⟨rfl, e20⟩ := q20; rw [e20] at S
      show Gl p e below s _ n0 _ T20 (mkF m 80 #[.val (.int p1), .val (.int p2), .val (.int (1 : Int32)), .val (.int p1), .val (.ref b18)] [.null])
      refine g_ifnonnull_null C S at_80 (pf := 83) rfl ?_
      refine g_iconst C S (1 : Int32) at_83 (pc' := 84) rfl rfl ?_
      refine g_goto C S at_84 (pc' := 88) (by decide) (by decide) ?_
      exact g_retZ C S at_88 (by decide) (by decide) (by decide) (rfl)
set_option maxRecDepth 65536 in
set_option maxHeartbeats 40000000 in
theorem comes_1 {Post : Tables → Env → Array Value → State → Outcome → State → Prop} (hpost : ∀ tb e args s v u, (limb_1_1.after args s (.returned v) u = true ∧ limb_1_2.after args s (.returned v) u = true ∧ True) → FrameEnd s (.returned v) u (Jvm.fieldLocs frame_1_writes args s ++ Jvm.arrayLocs frame_1_arrays args s ++ Jvm.staticLocs frame_1_statics s) 16 128 → Post tb e args s (.returned v) u) :
    ArmFor flags0 classFile x code maxLocals ret World_1 tables_1 room_1 Calls_1 rest_1 Pre_1 Post := by
  intro l hfl _ _ p e ha hc hk s m args below hf hA hF happ hP
  obtain ⟨hcalls, hrest, hpre⟩ := hP
  obtain ⟨-, -, -, hnamed, -, -, -, hat⟩ := (Spec.applies_iff hf).mp happ
  obtain ⟨hg, hn⟩ := and_e (Cond.before_iff.mp (show (Jvm.Cond.and given_1 narrow_1).before args s = true from hpre))
  obtain ⟨hcount, hg0⟩ := and_e hg
  obtain ⟨ha0, hg1⟩ := and_e hg0
  have ha1 := hg1
  obtain ⟨w0, w1, rfl⟩ : ∃ w0 w1 : Value, args = #[w0, w1] := by
    have hs : args.size = 2 := by simpa [Cond.value, given_1] using hcount
    obtain ⟨L⟩ := args
    match L, hs with
    | [w0, w1], _ => exact ⟨w0, w1, rfl⟩
  have hw := fun d (hd : d ∈ tables_1) => atoms_spec (ws := Jvm.Cond.code x code maxLocals ret :: tables_1) hat d (List.mem_cons_of_mem _ hd)
  obtain ⟨i0, ei0⟩ := is_v ha0
  obtain rfl : w0 = (.int i0) := Option.some.inj ei0
  obtain ⟨i1, ei1⟩ := is_v ha1
  obtain rfl : w1 = (.int i1) := Option.some.inj ei1
  obtain ⟨n, o, h1, h2, h3, _, L, rfl, ⟨rfl, N⟩, hq⟩ := c_law l s _ hw i0 i1 s.heap s.heap.size (Nat.le_refl _) tables_1 p e ha hc hk s m _ below hf ((Spec.applies_iff_loose hf).mp happ).1 ⟨rfl, State.Warmed39.refl s, rfl⟩ trivial
  refine ⟨n, _, h1, h2, h3, hpost _ _ _ _ _ _ ⟨Cond.after_iff.mpr rfl, Cond.after_iff.mpr (eq_i res_at (Term.int_eval (1)) rfl), trivial⟩ ⟨hq.1, hq.2.1, (hq.2.2.sift fun y hy => Or.inr (N y hy)).mono (by decide) (by decide)⟩⟩
theorem main_1_1 : Claimed_1_1 := comes_1 fun _ _ _ _ _ _ h hF => ⟨h.1, hF⟩
theorem main_1_2 : Claimed_1_2 := comes_1 fun _ _ _ _ _ _ h hF => ⟨h.2.1, hF⟩
end Jvm.Pilot.@@N@@
namespace Jvm.Pilot.@@N@@
open Jvm Jvm.ClassFile Sem Op Lib Jvm.Free Jvm.Stand Jvm.Pilot.@@N@@.Jvm.D
/-! MADE BY PROGRAM (witnessworld.py) out of the Statement's table words and the real class files: 9 classes; the members and pool entries that the words name. The judged class is class 1, her method 1. -/
namespace start1
open Jvm.ClassFile
def u (s : String) : CpInfo := .utf8 (stringToUtf16 s)
/-- a pool by its gaps: so many unusable entries, then the entry; so many at the end -/
def gap : Nat → List CpInfo → List CpInfo
  | 0, r => r
  | n + 1, r => .unusable :: gap n r
def poolList (es : List (Nat × CpInfo)) (last : Nat) : List CpInfo := es.foldr (fun e r => gap e.1 (e.2 :: r)) (gap last [])
def pool (es : List (Nat × CpInfo)) (last : Nat) : Array CpInfo := ⟨poolList es last⟩
def fileOf (pool : Array CpInfo) (this : Nat) (attrs : Array Attribute := #[]) (ms : Array MethodInfo := #[]) (fl : Nat := 33) (sup : Nat := 0) (ifs : Array Nat := #[]) (fds : Array FieldInfo := #[]) : ClassFile where
  minorVersion := 0
  majorVersion := 65
  constantPool := pool
  accessFlags := fl
  thisClass := this
  superClass := sup
  interfaces := ifs
  fields := fds
  methods := ms
  attributes := attrs
def plain (name : String) (sup : Option ClassId) : Class where
  name := name
  kind := .ordinary
  loader := none
  accessFlags := 33
  super := sup
  interfaces := #[]
  cf := none
  fields := #[]
  methods := #[]
  instanceTypes := #[]
  staticTypes := #[]
  resolved := #[]
  callSites := []
  init := .initialized
  statics := none
  mirror := none

def pool0 : Array CpInfo := pool [(5, u "<init>"), (0, u "()V"), (1, .class_ 10), (1, u "java/lang/Object")] 113

def k0c0 : Code := { maxStack := 0, maxLocals := 1, code := object_method_1_code, exceptionTable := #[], attributes := #[] }
def k0m0 : Method := { name := "<init>", desc := "()V", sig := { parameters := [], returnType := none }, accessFlags := 1, code := some k0c0 }
/-- java/lang/Object -/
def k0 : Class := { plain "java/lang/Object" none with
  accessFlags := 33
  interfaces := #[]
  cf := some (fileOf pool0 8 #[] #[{ accessFlags := 1, nameIndex := 5, descriptorIndex := 6, attributes := #[] }] 33 0 #[] #[])
  fields := #[]
  methods := #[k0m0]
  instanceTypes := #[]
  staticTypes := #[]
  resolved := Array.replicate 124 none
  statics := none }

def pool1 : Array CpInfo := pool [(2, .class_ 4), (1, u "java/lang/Object"), (0, u "<init>"), (0, u "()V"), (0, .methodref 8 9), (0, .class_ 10), (0, .nameAndType 11 12), (0, u "com/example/kindling/kindling/web/Response"), (0, u "isAnswerStatus"), (0, u "(I)Z"), (0, .integer 2147483647), (0, .methodref 8 15), (0, .nameAndType 16 17), (0, u "status"), (0, u "(I)Lcom/example/kindling/kindling/web/Response;"), (0, .methodref 8 19), (0, .nameAndType 16 20), (0, u "()I"), (0, .methodref 8 22), (0, .nameAndType 23 24), (0, u "body"), (0, u "()Ljava/lang/Object;"), (0, .class_ 26), (0, u "com/example/kindling/kindling/web/ResponseStatusPinLaw"), (2, u "law"), (0, u "(II)Z")] 3

def k1m0 : Method := { name := "<init>", desc := "()V", sig := { parameters := [], returnType := none }, accessFlags := 1, code := none }
def k1c1 : Code := { maxStack := 3, maxLocals := 5, code := code, exceptionTable := #[], attributes := #[] }
def k1m1 : Method := { name := "law", desc := "(II)Z", sig := { parameters := [.int, .int], returnType := some .boolean }, accessFlags := 9, code := some k1c1 }
/-- com/example/kindling/kindling/web/ResponseStatusPinLaw -/
def k1 : Class := { plain "com/example/kindling/kindling/web/ResponseStatusPinLaw" (some 0) with
  accessFlags := 49
  interfaces := #[]
  cf := some (fileOf pool1 25 #[] #[{ accessFlags := 1, nameIndex := 5, descriptorIndex := 6, attributes := #[] }, { accessFlags := 9, nameIndex := 29, descriptorIndex := 30, attributes := #[] }] 49 2 #[] #[])
  fields := #[]
  methods := #[k1m0, k1m1]
  instanceTypes := #[]
  staticTypes := #[]
  resolved := Array.replicate 34 none
  statics := none }

def pool2 : Array CpInfo := pool [(1, .methodref 2 3), (0, .class_ 4), (0, .nameAndType 5 6), (0, u "java/lang/Object"), (0, u "<init>"), (0, u "()V"), (0, .fieldref 8 9), (0, .class_ 10), (0, .nameAndType 11 12), (0, u "com/example/kindling/kindling/web/Response"), (0, u "status"), (0, u "I"), (0, .fieldref 8 14), (0, .nameAndType 15 16), (0, u "body"), (0, u "Ljava/lang/Object;"), (0, .methodref 8 18), (0, .nameAndType 19 20), (0, u "isAnswerStatus"), (0, u "(I)Z"), (9, .methodref 8 31), (0, .nameAndType 5 32), (0, u "(ILjava/lang/Object;)V"), (2, u "(I)Lcom/example/kindling/kindling/web/Response;"), (2, u "()I"), (0, u "()Ljava/lang/Object;")] 17

def k2c0 : Code := { maxStack := 2, maxLocals := 3, code := prog_56_method_1_code, exceptionTable := #[], attributes := #[] }
def k2m0 : Method := { name := "<init>", desc := "(ILjava/lang/Object;)V", sig := { parameters := [.int, (.object "java/lang/Object")], returnType := none }, accessFlags := 2, code := some k2c0 }
def k2c1 : Code := { maxStack := 4, maxLocals := 1, code := prog_56_method_2_code, exceptionTable := #[], attributes := #[] }
def k2m1 : Method := { name := "status", desc := "(I)Lcom/example/kindling/kindling/web/Response;", sig := { parameters := [.int], returnType := some (.object "com/example/kindling/kindling/web/Response") }, accessFlags := 9, code := some k2c1 }
def k2c2 : Code := { maxStack := 1, maxLocals := 1, code := prog_56_method_4_code, exceptionTable := #[], attributes := #[] }
def k2m2 : Method := { name := "status", desc := "()I", sig := { parameters := [], returnType := some .int }, accessFlags := 1, code := some k2c2 }
def k2c3 : Code := { maxStack := 1, maxLocals := 1, code := prog_56_method_5_code, exceptionTable := #[], attributes := #[] }
def k2m3 : Method := { name := "body", desc := "()Ljava/lang/Object;", sig := { parameters := [], returnType := some (.object "java/lang/Object") }, accessFlags := 1, code := some k2c3 }
def k2c4 : Code := { maxStack := 2, maxLocals := 1, code := prog_56_method_6_code, exceptionTable := #[], attributes := #[] }
def k2m4 : Method := { name := "isAnswerStatus", desc := "(I)Z", sig := { parameters := [.int], returnType := some .boolean }, accessFlags := 8, code := some k2c4 }
/-- com/example/kindling/kindling/web/Response -/
def k2 : Class := { plain "com/example/kindling/kindling/web/Response" (some 0) with
  accessFlags := 49
  interfaces := #[]
  cf := some (fileOf pool2 8 #[] #[{ accessFlags := 2, nameIndex := 5, descriptorIndex := 32, attributes := #[] }, { accessFlags := 9, nameIndex := 11, descriptorIndex := 35, attributes := #[] }, { accessFlags := 1, nameIndex := 11, descriptorIndex := 38, attributes := #[] }, { accessFlags := 1, nameIndex := 15, descriptorIndex := 39, attributes := #[] }, { accessFlags := 8, nameIndex := 19, descriptorIndex := 20, attributes := #[] }] 49 2 #[] #[{ accessFlags := 18, nameIndex := 11, descriptorIndex := 12, attributes := #[] }, { accessFlags := 18, nameIndex := 15, descriptorIndex := 16, attributes := #[] }])
  fields := #[{ name := "status", type := .int, accessFlags := 18, slot := 0, constantValue := 0 }, { name := "body", type := (.object "java/lang/Object"), accessFlags := 18, slot := 1, constantValue := 0 }]
  methods := #[k2m0, k2m1, k2m2, k2m3, k2m4]
  instanceTypes := #[.int, (.object "java/lang/Object")]
  staticTypes := #[]
  resolved := Array.replicate 57 none
  statics := none }

def pool3 : Array CpInfo := pool [(1, u "java/lang/Cloneable"), (0, .class_ 1), (0, u "java/lang/Object"), (0, .class_ 3)] 3

/-- java/lang/Cloneable -/
def k3 : Class := { plain "java/lang/Cloneable" (some 0) with
  accessFlags := 1537
  interfaces := #[]
  cf := some (fileOf pool3 2 #[] #[] 1537 4 #[] #[])
  fields := #[]
  methods := #[]
  instanceTypes := #[]
  staticTypes := #[]
  resolved := Array.replicate 8 none
  statics := none }

def pool4 : Array CpInfo := pool [(1, u "java/io/Serializable"), (0, .class_ 1), (0, u "java/lang/Object"), (0, .class_ 3)] 3

/-- java/io/Serializable -/
def k4 : Class := { plain "java/io/Serializable" (some 0) with
  accessFlags := 1537
  interfaces := #[]
  cf := some (fileOf pool4 2 #[] #[] 1537 4 #[] #[])
  fields := #[]
  methods := #[]
  instanceTypes := #[]
  staticTypes := #[]
  resolved := Array.replicate 8 none
  statics := none }

/-- the primitive byte -/
def k5 : Class := { plain "byte" none with kind := .primitive 'B', accessFlags := 0x411 }
/-- [B -/
def k6 : Class := { plain "[B" (some 0) with kind := .array 5 .byte, interfaces := #[3, 4], accessFlags := 1041 }

/-- the primitive int -/
def k7 : Class := { plain "int" none with kind := .primitive 'I', accessFlags := 0x411 }
/-- [I -/
def k8 : Class := { plain "[I" (some 0) with kind := .array 7 .int, interfaces := #[3, 4], accessFlags := 1041 }

def heap : Heap := #[]
def classes : Array Class := #[k0, k1, k2, k3, k4, k5, k6, k7, k8]
def interned : List (Array UInt16 × Addr) := []
def slotsUsed : Nat := 0
def theMethod : MethodId := ⟨1, 1⟩
def args0 : Array Value := #[.int 5, .int 300]
def aboutOver (below : List Frame) : State where
  vm := { classes := classes, interned := interned.toArray }
  heap := heap
  slotsUsed := slotsUsed
  threads := #[{ frames := .invoking theMethod args0 :: below }]
def below0 : List Frame := [.native { method := ⟨0, 0⟩, args := #[] }]
def about1 : State := aboutOver below0
def p0 : Program := .bare "" "" ""
def e0 : Env := launch0.env 0 0 0
theorem w_frames : about1.frames = Frame.invoking theMethod args0 :: below0 := rfl
set_option maxRecDepth 65536 in
theorem w_args : argsFit about1.vm theMethod args0 = true := by decide +kernel
set_option maxRecDepth 65536 in
theorem w_heap : heapFits about1 = true := by decide +kernel
set_option maxRecDepth 65536 in
theorem w_runnable : about1.curStatus? = some .runnable := by decide +kernel
set_option maxRecDepth 65536 in
theorem w_alone : about1.alone = true := by decide +kernel
set_option maxRecDepth 65536 in
theorem w_named : about1.methodNamed? x = some theMethod := by decide +kernel
set_option maxRecDepth 65536 in
theorem w_hears : about1.hears theMethod below0 = true := by decide +kernel
set_option maxRecDepth 65536 in
theorem w_ripe : about1.ripe theMethod args0 below0 = true := by decide +kernel
theorem w_running : about1.status = .running := rfl
set_option maxRecDepth 65536 in
theorem w_room : about1.hasRoom e0.platform room_1 = true :=
  launch0.hasRoom_least _ room_1 (by decide +kernel) (by decide +kernel) (by decide +kernel) (by decide +kernel) (by decide +kernel) (by decide +kernel)
theorem allAtoms_all (ts : List Jvm.Cond) (a : Array Jvm.Value) (st : Jvm.State) : (allAtoms ts).before a st = ts.all (fun c => c.before a st) := by
  induction ts with
  | nil => rfl
  | cons c t ih =>
    show (Jvm.Cond.and c (allAtoms t)).before a st = _
    rw [Jvm.Cond.before_and, ih, List.all_cons]
def words1 : List Jvm.Cond := Jvm.Cond.code x code maxLocals ret :: tables_1
/-- a 'code' word, met by the world's own term for the bytes: nothing is compared byte by byte -/
theorem code_word {y : MethodName} {bytes : ByteArray} {mx : Nat} {rt : Option FieldType} {a : Array Value} {s : State} {m : MethodId} {meth : Method} {c : Code} (h1 : s.methodNamed? y = some m) (h2 : s.vm.method? m = some meth) (h3 : meth.code = some c) (h4 : c.code = bytes)
    (h5 : (c.maxLocals == mx && c.exceptionTable.isEmpty && decide (c.maxStack ≤ mostOperands) && decide (meth.sig.returnType = rt) && !meth.locks && decide (parseMethodDescriptor y.desc = some meth.sig)) = true) : (Jvm.Cond.code y bytes mx rt).before a s = true := by
  simp only [Bool.and_eq_true, beq_iff_eq, Bool.not_eq_true', decide_eq_true_eq] at h5
  obtain ⟨⟨⟨⟨⟨g1, g2⟩, g3⟩, g4⟩, g5⟩, g6⟩ := h5
  simp [Cond.before, Cond.holds, Cond.value, h1, h2, h3, h4, g1, g2, g3, g4, g5, g6]
def isCode : Jvm.Cond → Bool
  | .code _ _ _ _ => true
  | _ => false
theorem all_split {L : List Jvm.Cond} {P : Jvm.Cond → Bool} (h1 : L.all (fun c => isCode c || P c) = true) (h2 : ∀ c ∈ L.filter isCode, P c = true) : L.all P = true := by
  refine List.all_eq_true.mpr fun c hc => ?_
  have h := List.all_eq_true.mp h1 c hc
  rcases Bool.eq_false_or_eq_true (isCode c) with hi | hi
  · exact h2 c (List.mem_filter.mpr ⟨hc, hi⟩)
  · simpa [hi] using h
set_option maxRecDepth 65536 in
theorem w_c0 : (Jvm.Cond.code x code maxLocals ret).before args0 about1 = true := code_word (m := ⟨1, 1⟩) (meth := k1m1) (c := k1c1) (by decide +kernel) rfl rfl rfl (by decide +kernel)
set_option maxRecDepth 65536 in
theorem w_c1 : (Jvm.Cond.code ({ cls := "com/example/kindling/kindling/web/Response", name := "isAnswerStatus", desc := "(I)Z" } : Jvm.MethodName) prog_56_method_6_code (1 : Nat) (Option.some Jvm.ClassFile.FieldType.boolean)).before args0 about1 = true := code_word (m := ⟨2, 4⟩) (meth := k2m4) (c := k2c4) (by decide +kernel) rfl rfl rfl (by decide +kernel)
set_option maxRecDepth 65536 in
theorem w_c2 : (Jvm.Cond.code ({ cls := "com/example/kindling/kindling/web/Response", name := "status", desc := "(I)Lcom/example/kindling/kindling/web/Response;" } : Jvm.MethodName) prog_56_method_2_code (1 : Nat) (Option.some (Jvm.ClassFile.FieldType.object "com/example/kindling/kindling/web/Response"))).before args0 about1 = true := code_word (m := ⟨2, 1⟩) (meth := k2m1) (c := k2c1) (by decide +kernel) rfl rfl rfl (by decide +kernel)
set_option maxRecDepth 65536 in
theorem w_c3 : (Jvm.Cond.code ({ cls := "com/example/kindling/kindling/web/Response", name := "<init>", desc := "(ILjava/lang/Object;)V" } : Jvm.MethodName) prog_56_method_1_code (3 : Nat) (Option.none : Option Jvm.ClassFile.FieldType)).before args0 about1 = true := code_word (m := ⟨2, 0⟩) (meth := k2m0) (c := k2c0) (by decide +kernel) rfl rfl rfl (by decide +kernel)
set_option maxRecDepth 65536 in
theorem w_c4 : (Jvm.Cond.code ({ cls := "java/lang/Object", name := "<init>", desc := "()V" } : Jvm.MethodName) object_method_1_code (1 : Nat) (Option.none : Option Jvm.ClassFile.FieldType)).before args0 about1 = true := code_word (m := ⟨0, 0⟩) (meth := k0m0) (c := k0c0) (by decide +kernel) rfl rfl rfl (by decide +kernel)
set_option maxRecDepth 65536 in
theorem w_c5 : (Jvm.Cond.code ({ cls := "com/example/kindling/kindling/web/Response", name := "status", desc := "()I" } : Jvm.MethodName) prog_56_method_4_code (1 : Nat) (Option.some Jvm.ClassFile.FieldType.int)).before args0 about1 = true := code_word (m := ⟨2, 2⟩) (meth := k2m2) (c := k2c2) (by decide +kernel) rfl rfl rfl (by decide +kernel)
set_option maxRecDepth 65536 in
theorem w_c6 : (Jvm.Cond.code ({ cls := "com/example/kindling/kindling/web/Response", name := "body", desc := "()Ljava/lang/Object;" } : Jvm.MethodName) prog_56_method_5_code (1 : Nat) (Option.some (Jvm.ClassFile.FieldType.object "java/lang/Object"))).before args0 about1 = true := code_word (m := ⟨2, 3⟩) (meth := k2m3) (c := k2c3) (by decide +kernel) rfl rfl rfl (by decide +kernel)
def codes1 : List Jvm.Cond := [Jvm.Cond.code x code maxLocals ret, Jvm.Cond.code ({ cls := "com/example/kindling/kindling/web/Response", name := "isAnswerStatus", desc := "(I)Z" } : Jvm.MethodName) prog_56_method_6_code (1 : Nat) (Option.some Jvm.ClassFile.FieldType.boolean), Jvm.Cond.code ({ cls := "com/example/kindling/kindling/web/Response", name := "status", desc := "(I)Lcom/example/kindling/kindling/web/Response;" } : Jvm.MethodName) prog_56_method_2_code (1 : Nat) (Option.some (Jvm.ClassFile.FieldType.object "com/example/kindling/kindling/web/Response")), Jvm.Cond.code ({ cls := "com/example/kindling/kindling/web/Response", name := "<init>", desc := "(ILjava/lang/Object;)V" } : Jvm.MethodName) prog_56_method_1_code (3 : Nat) (Option.none : Option Jvm.ClassFile.FieldType), Jvm.Cond.code ({ cls := "java/lang/Object", name := "<init>", desc := "()V" } : Jvm.MethodName) object_method_1_code (1 : Nat) (Option.none : Option Jvm.ClassFile.FieldType), Jvm.Cond.code ({ cls := "com/example/kindling/kindling/web/Response", name := "status", desc := "()I" } : Jvm.MethodName) prog_56_method_4_code (1 : Nat) (Option.some Jvm.ClassFile.FieldType.int), Jvm.Cond.code ({ cls := "com/example/kindling/kindling/web/Response", name := "body", desc := "()Ljava/lang/Object;" } : Jvm.MethodName) prog_56_method_5_code (1 : Nat) (Option.some (Jvm.ClassFile.FieldType.object "java/lang/Object"))]
set_option maxRecDepth 65536 in
theorem codes_eq : words1.filter isCode = codes1 := rfl
theorem w_codes : ∀ c ∈ words1.filter isCode, c.before args0 about1 = true := by
  rw [codes_eq]
  intro c hc
  simp only [codes1, List.mem_cons, List.not_mem_nil, or_false] at hc
  rcases hc with rfl | rfl | rfl | rfl | rfl | rfl | rfl
  · exact w_c0
  · exact w_c1
  · exact w_c2
  · exact w_c3
  · exact w_c4
  · exact w_c5
  · exact w_c6
set_option maxRecDepth 65536 in
theorem w_t1 : (words1.take 24).all (fun c => isCode c || c.before args0 about1) = true := by decide +kernel
set_option maxRecDepth 65536 in
theorem w_t2 : (words1.drop 24).all (fun c => isCode c || c.before args0 about1) = true := by decide +kernel
theorem w_tables : (allAtoms (Jvm.Cond.code x code maxLocals ret :: tables_1)).before args0 about1 = true := by
  rw [allAtoms_all]
  show words1.all (fun c => c.before args0 about1) = true
  refine all_split ?_ w_codes
  rw [← List.take_append_drop 24 words1, List.all_append, w_t1, w_t2]
  rfl
set_option maxRecDepth 65536 in
theorem w_case : (Jvm.Cond.and given_1 narrow_1).before args0 about1 = true := by decide +kernel
theorem w_applies : (headSpec (Jvm.Cond.code x code maxLocals ret :: tables_1) room_1).applies x e0.platform about1 = true :=
  (Spec.applies_iff w_frames).mpr ⟨w_running, w_runnable, w_alone, w_named, w_hears, w_ripe, w_room, w_tables⟩
theorem atStart : AtStart classFile x code maxLocals ret World_1 tables_1 room_1 Calls_1 rest_1 Pre_1 launch0 p0 e0 about1 theMethod args0 below0 :=
  ⟨lists_1, trivial, launch0.admits_env _ _ _, launch0.least_env, fairChoices_fair.cas, fairChoices_fair.clock, w_frames, w_args, w_heap, w_applies, trivial, trivial, w_case⟩
end start1
theorem witness_1 : WitnessClaimed_1 := ⟨start1.p0, start1.e0, start1.about1, start1.theMethod, start1.args0, start1.below0, start1.atStart⟩
end Jvm.Pilot.@@N@@
