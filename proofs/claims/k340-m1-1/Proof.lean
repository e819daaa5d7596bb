import JvmDerived
import JvmDerived.Pilot.@@N@@Statement
import JvmDerived.Pilot.@@N@@Code
set_option linter.unusedVariables false
set_option linter.unusedSimpArgs false
namespace Jvm.Pilot.@@N@@
open Jvm Jvm.ClassFile Sem Op Lib Jvm.Free Jvm.Stand Jvm.LawKit Jvm.RoadKit Bundle Jvm.Pilot.@@N@@.Jvm.D
section WK
/-! A walk's standing goal in one word: wkP says that from this frame over this heap the body ends as Q says. -/
abbrev EL : List (String × Nat) := consts_1
abbrev wkB : Type := MethodName × ByteArray × Nat × Option FieldType
/-- the cells that may be written: made since the case's start, no literal's, made by this body or handed in as such -/
def wkSf (Z : State) (vm : Vm) (h hs : Heap) (w0 ws : List Addr) : Prop := ∀ x ∈ ws, Z.heap.size ≤ x ∧ x < h.size ∧ Safe Z EL vm h x ∧ (x ∈ w0 ∨ hs.size ≤ x)
def wkAt (p : Program) (l : Launch) (e : Env) (R : Room) (s : State) (m : MethodId) (args : Array Value) (below : List Frame) (meth : Method) (c : Code) (Z : State) (B : wkB) (hs : Heap) (w0 ws : List Addr) (h : Heap) (k n : Nat) (vm0 : Vm) (k0 : Nat) (T : State) (locs : List Loc) : Prop :=
  (p.tables.exec = Jvm.exec ∧ c.code = B.2.1 ∧ c.maxLocals = B.2.2.1 ∧ meth.sig.returnType = B.2.2.2 ∧ meth.locks = false ∧ meth.name = B.1.name) ∧
  Stand p l e R (s.setVm vm0) m args below meth c T locs k n ∧ T.heap = h ∧ (s.Since vm0 k0 ∧ k0 ≤ h.size) ∧ Z.Warmed39 vm0 ∧ vm0.findClass B.1.cls = some m.cls ∧ CHr Z EL s.vm s.heap vm0 h ∧ Fr Z.heap.size locs ∧ Old Z Z.heap.size h ∧ Keep hs h w0 ∧ wkSf Z vm0 h hs w0 ws
def wkEnd (R : Room) (s Z : State) (hs : Heap) (w0 : List Addr) (Q : Option Value → Heap → List Addr → Prop) (U : State) (o : Outcome) : Prop :=
  ∃ v L, o = .returned v ∧ (∃ os, Q v U.heap os ∧ Keep hs U.heap w0 ∧ Fr Z.heap.size L ∧ Old Z Z.heap.size U.heap ∧ wkSf Z U.vm U.heap hs w0 os) ∧ CHr Z EL s.vm s.heap U.vm U.heap ∧ ReturnedEndW s o U L R.cells R.slots
def wkP (l : Launch) (Z : State) (B : wkB) (R : Room) (hs : Heap) (w0 : List Addr) (Q : Option Value → Heap → List Addr → Prop) (ws : List Addr) (h : Heap) (k n pc : Nat) (Ls : Array Slot) (st : List Value) : Prop :=
  ∀ (p : Program) (e : Env) (s : State) (m : MethodId) (args : Array Value) (below : List Frame) (meth : Method) (c : Code) (vm0 : Vm) (k0 : Nat) (T : State) (locs : List Loc), wkAt p l e R s m args below meth c Z B hs w0 ws h k n vm0 k0 T locs →
    ∃ (U : State) (o : Outcome), Steps p.tables e below (T.setTop (mkF m pc Ls st)) U ∧ U.status = .running ∧ Ended U below o ∧ wkEnd R s Z hs w0 Q U o
/-- a body's contract: with these arguments over this heap, writing at most w0 of what stood, it returns as Q says -/
def wkM (l : Launch) (Z : State) (B : wkB) (rm : Room) (as : Array Value) (h : Heap) (w0 : List Addr) (Q : Option Value → Heap → List Addr → Prop) : Prop :=
  Old Z Z.heap.size h → (∀ x ∈ w0, Z.heap.size ≤ x ∧ x < h.size) →
  MetFree l B.1 (head1 [Cond.code B.1 B.2.1 B.2.2.1 B.2.2.2] rm) (fun a U => a = as ∧ Z.Warmed39 U.vm ∧ U.heap = h ∧ CHv Z EL U.vm h ∧ ∀ x ∈ w0, Safe Z EL U.vm h x) (fun _ _ _ _ _ => True) (fun _ U o U' => wkEnd rm U Z h w0 Q U' o)
section Rules
variable {l : Launch} {Z : State} {B : wkB} {R : Room} {hs : Heap} {w0 : List Addr} {Q : Option Value → Heap → List Addr → Prop} {ws : List Addr} {h : Heap} {k n pc : Nat} {Ls : Array Slot} {st : List Value} {a0 : Array Value}
theorem wkP.pure {pc' : Nat} {Ls' : Array Slot} {st' : List Value}
    (hst : ∀ (p : Program) (e : Env) (s : State) (m : MethodId) (args : Array Value) (below : List Frame) (meth : Method) (c : Code) (vm0 : Vm) (T : State) (locs : List Loc), p.tables.exec = Jvm.exec → c.code = B.2.1 → Stand p l e R (s.setVm vm0) m args below meth c T locs k n → ∀ target, Steps p.tables e below (T.setTop (mkF m pc' Ls' st')) target → Steps p.tables e below (T.setTop (mkF m pc Ls st)) target)
    (K : wkP l Z B R hs w0 Q ws h k n pc' Ls' st') : wkP l Z B R hs w0 Q ws h k n pc Ls st := by
  intro p e s m args below meth c vm0 k0 T locs A
  obtain ⟨U, o, q, r⟩ := K p e s m args below meth c vm0 k0 T locs A
  exact ⟨U, o, hst p e s m args below meth c vm0 T locs A.1.1 A.1.2.1 A.2.1 U q, r⟩
theorem wkP.iload (pc' : Nat) {j : Nat} {v : Int32} (hd : decode B.2.1 pc = .ok (.iload j, 2)) (hl : Ls[j]? = some (.val (.int v))) (hp : pc + 2 = pc') (K : wkP l Z B R hs w0 Q ws h k n pc' Ls (.int v :: st)) : wkP l Z B R hs w0 Q ws h k n pc Ls st := by
  subst hp; exact .pure (fun p e s m args below meth c vm0 T locs hx hby X t q => XS.iload X.here hx rfl (hb hby hd) hl q) K
theorem wkP.iloadN (pc' : Nat) {j : Fin 4} {v : Int32} (hd : decode B.2.1 pc = .ok (.iload_n j, 1)) (hl : Ls[j.val]? = some (.val (.int v))) (hp : pc + 1 = pc') (K : wkP l Z B R hs w0 Q ws h k n pc' Ls (.int v :: st)) : wkP l Z B R hs w0 Q ws h k n pc Ls st := by
  subst hp; exact .pure (fun p e s m args below meth c vm0 T locs hx hby X t q => XS.iloadN X.here hx rfl (hb hby hd) hl q) K
theorem wkP.aload (pc' : Nat) {j : Nat} {v : Value} (hd : decode B.2.1 pc = .ok (.aload j, 2)) (hl : Ls[j]? = some (.val v)) (hv : v.isRef = true) (hp : pc + 2 = pc') (K : wkP l Z B R hs w0 Q ws h k n pc' Ls (v :: st)) : wkP l Z B R hs w0 Q ws h k n pc Ls st := by
  subst hp; exact .pure (fun p e s m args below meth c vm0 T locs hx hby X t q => XS.aload X.here hx rfl (hb hby hd) hl hv q) K
theorem wkP.aloadN (pc' : Nat) {j : Fin 4} {v : Value} (hd : decode B.2.1 pc = .ok (.aload_n j, 1)) (hl : Ls[j.val]? = some (.val v)) (hv : v.isRef = true) (hp : pc + 1 = pc') (K : wkP l Z B R hs w0 Q ws h k n pc' Ls (v :: st)) : wkP l Z B R hs w0 Q ws h k n pc Ls st := by
  subst hp; exact .pure (fun p e s m args below meth c vm0 T locs hx hby X t q => XS.aloadN X.here hx rfl (hb hby hd) hl hv q) K
theorem wkP.lload (pc' : Nat) {j : Nat} {v : Int64} (hd : decode B.2.1 pc = .ok (.lload j, 2)) (hl : Ls[j]? = some (.val (.long v))) (hp : pc + 2 = pc') (K : wkP l Z B R hs w0 Q ws h k n pc' Ls (.long v :: st)) : wkP l Z B R hs w0 Q ws h k n pc Ls st := by
  subst hp; exact .pure (fun p e s m args below meth c vm0 T locs hx hby X t q => XS.lload X.here hx rfl (hb hby hd) hl q) K
theorem wkP.lloadN (pc' : Nat) {j : Fin 4} {v : Int64} (hd : decode B.2.1 pc = .ok (.lload_n j, 1)) (hl : Ls[j.val]? = some (.val (.long v))) (hp : pc + 1 = pc') (K : wkP l Z B R hs w0 Q ws h k n pc' Ls (.long v :: st)) : wkP l Z B R hs w0 Q ws h k n pc Ls st := by
  subst hp; exact .pure (fun p e s m args below meth c vm0 T locs hx hby X t q => XS.lloadN X.here hx rfl (hb hby hd) hl q) K
theorem wkP.iconst (pc' : Nat) {i : Int} (v : Int32) (hd : decode B.2.1 pc = .ok (.iconst i, 1)) (hv : Int32.ofInt i = v) (hp : pc + 1 = pc') (K : wkP l Z B R hs w0 Q ws h k n pc' Ls (.int v :: st)) : wkP l Z B R hs w0 Q ws h k n pc Ls st := by
  subst hp hv; exact .pure (fun p e s m args below meth c vm0 T locs hx hby X t q => XS.iconst X.here hx rfl (hb hby hd) q) K
theorem wkP.bipush (pc' : Nat) {i : Int} (v : Int32) (hd : decode B.2.1 pc = .ok (.bipush i, 2)) (hv : (Int8.ofInt i).toInt32 = v) (hp : pc + 2 = pc') (K : wkP l Z B R hs w0 Q ws h k n pc' Ls (.int v :: st)) : wkP l Z B R hs w0 Q ws h k n pc Ls st := by
  subst hp hv; exact .pure (fun p e s m args below meth c vm0 T locs hx hby X t q => XS.bipush X.here hx rfl (hb hby hd) q) K
theorem wkP.sipush (pc' : Nat) {i : Int} (v : Int32) (hd : decode B.2.1 pc = .ok (.sipush i, 3)) (hv : (Int16.ofInt i).toInt32 = v) (hp : pc + 3 = pc') (K : wkP l Z B R hs w0 Q ws h k n pc' Ls (.int v :: st)) : wkP l Z B R hs w0 Q ws h k n pc Ls st := by
  subst hp hv; exact .pure (fun p e s m args below meth c vm0 T locs hx hby X t q => XS.sipush X.here hx rfl (hb hby hd) q) K
theorem wkP.anull (pc' : Nat) (hd : decode B.2.1 pc = .ok (.aconst_null, 1)) (hp : pc + 1 = pc') (K : wkP l Z B R hs w0 Q ws h k n pc' Ls (.null :: st)) : wkP l Z B R hs w0 Q ws h k n pc Ls st := by
  subst hp; exact .pure (fun p e s m args below meth c vm0 T locs hx hby X t q => XS.aconstNull X.here hx rfl (hb hby hd) q) K
theorem wkP.istore (pc' : Nat) {j : Nat} {x : Int32} (Ls' : Array Slot) (hd : decode B.2.1 pc = .ok (.istore j, 2)) (hl : storeLocals Ls j (.int x) = some Ls') (hp : pc + 2 = pc') (K : wkP l Z B R hs w0 Q ws h k n pc' Ls' st) : wkP l Z B R hs w0 Q ws h k n pc Ls (.int x :: st) := by
  subst hp; exact .pure (fun p e s m args below meth c vm0 T locs hx hby X t q => XS.istore X.here hx rfl (hb hby hd) rfl hl q) K
theorem wkP.istoreN (pc' : Nat) {j : Fin 4} {x : Int32} (Ls' : Array Slot) (hd : decode B.2.1 pc = .ok (.istore_n j, 1)) (hl : storeLocals Ls j.val (.int x) = some Ls') (hp : pc + 1 = pc') (K : wkP l Z B R hs w0 Q ws h k n pc' Ls' st) : wkP l Z B R hs w0 Q ws h k n pc Ls (.int x :: st) := by
  subst hp; exact .pure (fun p e s m args below meth c vm0 T locs hx hby X t q => XS.istoreN X.here hx rfl (hb hby hd) rfl hl q) K
theorem wkP.astore (pc' : Nat) {j : Nat} {x : Value} (Ls' : Array Slot) (hd : decode B.2.1 pc = .ok (.astore j, 2)) (hv : x.isRef = true) (hl : storeLocals Ls j x = some Ls') (hp : pc + 2 = pc') (K : wkP l Z B R hs w0 Q ws h k n pc' Ls' st) : wkP l Z B R hs w0 Q ws h k n pc Ls (x :: st) := by
  subst hp; exact .pure (fun p e s m args below meth c vm0 T locs hx hby X t q => XS.astore X.here hx rfl (hb hby hd) rfl hv hl q) K
theorem wkP.astoreN (pc' : Nat) {j : Fin 4} {x : Value} (Ls' : Array Slot) (hd : decode B.2.1 pc = .ok (.astore_n j, 1)) (hv : x.isRef = true) (hl : storeLocals Ls j.val x = some Ls') (hp : pc + 1 = pc') (K : wkP l Z B R hs w0 Q ws h k n pc' Ls' st) : wkP l Z B R hs w0 Q ws h k n pc Ls (x :: st) := by
  subst hp; exact .pure (fun p e s m args below meth c vm0 T locs hx hby X t q => XS.astoreN X.here hx rfl (hb hby hd) rfl hv hl q) K
theorem wkP.lstore (pc' : Nat) {j : Nat} {x : Int64} (Ls' : Array Slot) (hd : decode B.2.1 pc = .ok (.lstore j, 2)) (hl : storeLocals Ls j (.long x) = some Ls') (hp : pc + 2 = pc') (K : wkP l Z B R hs w0 Q ws h k n pc' Ls' st) : wkP l Z B R hs w0 Q ws h k n pc Ls (.long x :: st) := by
  subst hp; exact .pure (fun p e s m args below meth c vm0 T locs hx hby X t q => XS.lstore X.here hx rfl (hb hby hd) rfl hl q) K
theorem wkP.iinc (pc' : Nat) {j : Nat} {cst : Int} {x : Int32} (y : Int32) (Ls' : Array Slot) (hd : decode B.2.1 pc = .ok (.iinc j cst, 3)) (hl : Ls[j]? = some (.val (.int x))) (hy : x + Int32.ofInt cst = y) (hl' : storeLocals Ls j (.int y) = some Ls') (hp : pc + 3 = pc') (K : wkP l Z B R hs w0 Q ws h k n pc' Ls' st) : wkP l Z B R hs w0 Q ws h k n pc Ls st := by
  subst hp hy; exact .pure (fun p e s m args below meth c vm0 T locs hx hby X t q => XS.iinc X.here hx rfl (hb hby hd) hl hl' q) K
theorem wkP.dup (pc' : Nat) {x : Value} (hd : decode B.2.1 pc = .ok (.dup, 1)) (hc : x.category = 1) (hp : pc + 1 = pc') (K : wkP l Z B R hs w0 Q ws h k n pc' Ls (x :: x :: st)) : wkP l Z B R hs w0 Q ws h k n pc Ls (x :: st) := by
  subst hp; exact .pure (fun p e s m args below meth c vm0 T locs hx hby X t q => XS.dup X.here hx rfl (hb hby hd) rfl hc q) K
theorem wkP.dupX1 (pc' : Nat) {x y : Value} (hd : decode B.2.1 pc = .ok (.dup_x1, 1)) (hc : x.category = 1) (hc' : y.category = 1) (hp : pc + 1 = pc') (K : wkP l Z B R hs w0 Q ws h k n pc' Ls (x :: y :: x :: st)) : wkP l Z B R hs w0 Q ws h k n pc Ls (x :: y :: st) := by
  subst hp; exact .pure (fun p e s m args below meth c vm0 T locs hx hby X t q => XS.dupX1 X.here hx rfl (hb hby hd) rfl hc hc' q) K
theorem wkP.pop (pc' : Nat) {x : Value} (hd : decode B.2.1 pc = .ok (.pop, 1)) (hc : x.category = 1) (hp : pc + 1 = pc') (K : wkP l Z B R hs w0 Q ws h k n pc' Ls st) : wkP l Z B R hs w0 Q ws h k n pc Ls (x :: st) := by
  subst hp; exact .pure (fun p e s m args below meth c vm0 T locs hx hby X t q => XS.pop X.here hx rfl (hb hby hd) rfl hc q) K
theorem wkP.iadd (pc' : Nat) {x y : Int32} (v : Int32) (hd : decode B.2.1 pc = .ok (.iadd, 1)) (hv : x + y = v) (hp : pc + 1 = pc') (K : wkP l Z B R hs w0 Q ws h k n pc' Ls (.int v :: st)) : wkP l Z B R hs w0 Q ws h k n pc Ls (.int y :: .int x :: st) := by
  subst hp hv; exact .pure (fun p e s m args below meth c vm0 T locs hx hby X t q => XS.iadd X.here hx rfl (hb hby hd) rfl q) K
theorem wkP.isub (pc' : Nat) {x y : Int32} (v : Int32) (hd : decode B.2.1 pc = .ok (.isub, 1)) (hv : x - y = v) (hp : pc + 1 = pc') (K : wkP l Z B R hs w0 Q ws h k n pc' Ls (.int v :: st)) : wkP l Z B R hs w0 Q ws h k n pc Ls (.int y :: .int x :: st) := by
  subst hp hv; exact .pure (fun p e s m args below meth c vm0 T locs hx hby X t q => XS.isub X.here hx rfl (hb hby hd) rfl q) K
theorem wkP.imul (pc' : Nat) {x y : Int32} (v : Int32) (hd : decode B.2.1 pc = .ok (.imul, 1)) (hv : x * y = v) (hp : pc + 1 = pc') (K : wkP l Z B R hs w0 Q ws h k n pc' Ls (.int v :: st)) : wkP l Z B R hs w0 Q ws h k n pc Ls (.int y :: .int x :: st) := by
  subst hp hv; exact .pure (fun p e s m args below meth c vm0 T locs hx hby X t q => XS.imul X.here hx rfl (hb hby hd) rfl q) K
theorem wkP.idiv (pc' : Nat) {x y : Int32} (v : Int32) (hd : decode B.2.1 pc = .ok (.idiv, 1)) (hy : y ≠ 0) (hv : x / y = v) (hp : pc + 1 = pc') (K : wkP l Z B R hs w0 Q ws h k n pc' Ls (.int v :: st)) : wkP l Z B R hs w0 Q ws h k n pc Ls (.int y :: .int x :: st) := by
  subst hp hv; exact .pure (fun p e s m args below meth c vm0 T locs hx hby X t q => XS.idiv X.here hx rfl (hb hby hd) rfl hy q) K
theorem wkP.irem (pc' : Nat) {x y : Int32} (v : Int32) (hd : decode B.2.1 pc = .ok (.irem, 1)) (hy : y ≠ 0) (hv : x % y = v) (hp : pc + 1 = pc') (K : wkP l Z B R hs w0 Q ws h k n pc' Ls (.int v :: st)) : wkP l Z B R hs w0 Q ws h k n pc Ls (.int y :: .int x :: st) := by
  subst hp hv; exact .pure (fun p e s m args below meth c vm0 T locs hx hby X t q => iremM X hx rfl (hb hby hd) rfl hy q) K
theorem wkP.iand (pc' : Nat) {x y : Int32} (v : Int32) (hd : decode B.2.1 pc = .ok (.iand, 1)) (hv : x &&& y = v) (hp : pc + 1 = pc') (K : wkP l Z B R hs w0 Q ws h k n pc' Ls (.int v :: st)) : wkP l Z B R hs w0 Q ws h k n pc Ls (.int y :: .int x :: st) := by
  subst hp hv; exact .pure (fun p e s m args below meth c vm0 T locs hx hby X t q => XS.iand X.here hx rfl (hb hby hd) rfl q) K
theorem wkP.ior (pc' : Nat) {x y : Int32} (v : Int32) (hd : decode B.2.1 pc = .ok (.ior, 1)) (hv : x ||| y = v) (hp : pc + 1 = pc') (K : wkP l Z B R hs w0 Q ws h k n pc' Ls (.int v :: st)) : wkP l Z B R hs w0 Q ws h k n pc Ls (.int y :: .int x :: st) := by
  subst hp hv; exact .pure (fun p e s m args below meth c vm0 T locs hx hby X t q => XS.ior X.here hx rfl (hb hby hd) rfl q) K
theorem wkP.ishl (pc' : Nat) {x y : Int32} (v : Int32) (hd : decode B.2.1 pc = .ok (.ishl, 1)) (hv : x <<< (y &&& 31) = v) (hp : pc + 1 = pc') (K : wkP l Z B R hs w0 Q ws h k n pc' Ls (.int v :: st)) : wkP l Z B R hs w0 Q ws h k n pc Ls (.int y :: .int x :: st) := by
  subst hp hv; exact .pure (fun p e s m args below meth c vm0 T locs hx hby X t q => XS.ishl X.here hx rfl (hb hby hd) rfl q) K
theorem wkP.ishr (pc' : Nat) {x y : Int32} (v : Int32) (hd : decode B.2.1 pc = .ok (.ishr, 1)) (hv : x >>> (y &&& 31) = v) (hp : pc + 1 = pc') (K : wkP l Z B R hs w0 Q ws h k n pc' Ls (.int v :: st)) : wkP l Z B R hs w0 Q ws h k n pc Ls (.int y :: .int x :: st) := by
  subst hp hv; exact .pure (fun p e s m args below meth c vm0 T locs hx hby X t q => XS.ishr X.here hx rfl (hb hby hd) rfl q) K
theorem wkP.iushr (pc' : Nat) {x y : Int32} (v : Int32) (hd : decode B.2.1 pc = .ok (.iushr, 1)) (hv : (x.toUInt32 >>> (y &&& 31).toUInt32).toInt32 = v) (hp : pc + 1 = pc') (K : wkP l Z B R hs w0 Q ws h k n pc' Ls (.int v :: st)) : wkP l Z B R hs w0 Q ws h k n pc Ls (.int y :: .int x :: st) := by
  subst hp hv; exact .pure (fun p e s m args below meth c vm0 T locs hx hby X t q => XS.iushr X.here hx rfl (hb hby hd) rfl q) K
theorem wkP.i2b (pc' : Nat) {x : Int32} (v : Int32) (hd : decode B.2.1 pc = .ok (.i2b, 1)) (hv : x.toInt8.toInt32 = v) (hp : pc + 1 = pc') (K : wkP l Z B R hs w0 Q ws h k n pc' Ls (.int v :: st)) : wkP l Z B R hs w0 Q ws h k n pc Ls (.int x :: st) := by
  subst hp hv; exact .pure (fun p e s m args below meth c vm0 T locs hx hby X t q => XS.i2b X.here hx rfl (hb hby hd) rfl q) K
theorem wkP.i2c (pc' : Nat) {x : Int32} (v : Int32) (hd : decode B.2.1 pc = .ok (.i2c, 1)) (hv : x.toUInt32.toUInt16.toUInt32.toInt32 = v) (hp : pc + 1 = pc') (K : wkP l Z B R hs w0 Q ws h k n pc' Ls (.int v :: st)) : wkP l Z B R hs w0 Q ws h k n pc Ls (.int x :: st) := by
  subst hp hv; exact .pure (fun p e s m args below meth c vm0 T locs hx hby X t q => XS.i2c X.here hx rfl (hb hby hd) rfl q) K
theorem wkP.i2l (pc' : Nat) {x : Int32} (v : Int64) (hd : decode B.2.1 pc = .ok (.i2l, 1)) (hv : x.toInt64 = v) (hp : pc + 1 = pc') (K : wkP l Z B R hs w0 Q ws h k n pc' Ls (.long v :: st)) : wkP l Z B R hs w0 Q ws h k n pc Ls (.int x :: st) := by
  subst hp hv; exact .pure (fun p e s m args below meth c vm0 T locs hx hby X t q => XS.i2l X.here hx rfl (hb hby hd) rfl q) K
theorem wkP.l2i (pc' : Nat) {x : Int64} (v : Int32) (hd : decode B.2.1 pc = .ok (.l2i, 1)) (hv : x.toInt32 = v) (hp : pc + 1 = pc') (K : wkP l Z B R hs w0 Q ws h k n pc' Ls (.int v :: st)) : wkP l Z B R hs w0 Q ws h k n pc Ls (.long x :: st) := by
  subst hp hv; exact .pure (fun p e s m args below meth c vm0 T locs hx hby X t q => XS.l2i X.here hx rfl (hb hby hd) rfl q) K
theorem wkP.lmul (pc' : Nat) {x y : Int64} (v : Int64) (hd : decode B.2.1 pc = .ok (.lmul, 1)) (hv : x * y = v) (hp : pc + 1 = pc') (K : wkP l Z B R hs w0 Q ws h k n pc' Ls (.long v :: st)) : wkP l Z B R hs w0 Q ws h k n pc Ls (.long y :: .long x :: st) := by
  subst hp hv; exact .pure (fun p e s m args below meth c vm0 T locs hx hby X t q => XS.lmul X.here hx rfl (hb hby hd) rfl q) K
theorem wkP.land (pc' : Nat) {x y : Int64} (v : Int64) (hd : decode B.2.1 pc = .ok (.land, 1)) (hv : x &&& y = v) (hp : pc + 1 = pc') (K : wkP l Z B R hs w0 Q ws h k n pc' Ls (.long v :: st)) : wkP l Z B R hs w0 Q ws h k n pc Ls (.long y :: .long x :: st) := by
  subst hp hv; exact .pure (fun p e s m args below meth c vm0 T locs hx hby X t q => XS.land X.here hx rfl (hb hby hd) rfl q) K
theorem wkP.lushr (pc' : Nat) {x : Int64} {y : Int32} (v : Int64) (hd : decode B.2.1 pc = .ok (.lushr, 1)) (hv : (x.toUInt64 >>> (y &&& 0x3f).toInt64.toUInt64).toInt64 = v) (hp : pc + 1 = pc') (K : wkP l Z B R hs w0 Q ws h k n pc' Ls (.long v :: st)) : wkP l Z B R hs w0 Q ws h k n pc Ls (.int y :: .long x :: st) := by
  subst hp hv; exact .pure (fun p e s m args below meth c vm0 T locs hx hby X t q => XS.lushr X.here hx rfl (hb hby hd) rfl q) K
theorem wkP.goto (pc' : Nat) {o : Int} (hd : decode B.2.1 pc = .ok (.goto o, 3)) (ho : 0 ≤ (pc : Int) + o) (hp : ((pc : Int) + o).toNat = pc') (K : wkP l Z B R hs w0 Q ws h k n pc' Ls st) : wkP l Z B R hs w0 Q ws h k n pc Ls st :=
  .pure (fun p e s m args below meth c vm0 T locs hx hby X t q => XS.goto X.here hx rfl (pc0 := pc) rfl (hb hby hd) ho hp q) K
/-- what a comparison's letters mean -/
abbrev wkC : ClassFile.Cond → Int32 → Int32 → Prop
  | .eq, x, y => x = y
  | .ne, x, y => ¬ x = y
  | .lt, x, y => x < y
  | .ge, x, y => ¬ x < y
  | .gt, x, y => y < x
  | .le, x, y => ¬ y < x
theorem wkC_t {cd : ClassFile.Cond} {x y : Int32} (q : wkC cd x y) : if_icmp.holds cd x y = true := by
  cases cd
  · exact (teq q).1
  · exact (feq q).2
  · exact (tlt q).1
  · exact (flt q).2.1
  · exact (tlt q).2.2.1
  · exact (flt q).2.2.2
theorem wkC_f {cd : ClassFile.Cond} {x y : Int32} (q : ¬ wkC cd x y) : if_icmp.holds cd x y = false := by
  cases cd
  · exact (feq q).1
  · exact (teq (Decidable.not_not.mp q)).2
  · exact (flt q).1
  · exact (tlt (Decidable.not_not.mp q)).2.1
  · exact (flt q).2.2.1
  · exact (tlt (Decidable.not_not.mp q)).2.2.2
theorem wkP.icmpT (pc' : Nat) {cd : ClassFile.Cond} {x y : Int32} {o : Int} (hd : decode B.2.1 pc = .ok (.if_icmp cd o, 3)) (q : wkC cd x y) (ho : 0 ≤ (pc : Int) + o) (hp : ((pc : Int) + o).toNat = pc') (K : wkP l Z B R hs w0 Q ws h k n pc' Ls st) : wkP l Z B R hs w0 Q ws h k n pc Ls (.int y :: .int x :: st) :=
  .pure (fun p e s m args below meth c vm0 T locs hx hby X t r => XS.icmpYes X.here hx rfl (pc0 := pc) rfl (hb hby hd) rfl (wkC_t q) ho hp r) K
theorem wkP.icmpF (pc' : Nat) {cd : ClassFile.Cond} {x y : Int32} {o : Int} (hd : decode B.2.1 pc = .ok (.if_icmp cd o, 3)) (q : ¬ wkC cd x y) (hp : pc + 3 = pc') (K : wkP l Z B R hs w0 Q ws h k n pc' Ls st) : wkP l Z B R hs w0 Q ws h k n pc Ls (.int y :: .int x :: st) := by
  subst hp; exact .pure (fun p e s m args below meth c vm0 T locs hx hby X t r => XS.icmpNo X.here hx rfl (hb hby hd) rfl (wkC_f q) r) K
theorem wkP.ifT (pc' : Nat) {cd : ClassFile.Cond} {x : Int32} {o : Int} (hd : decode B.2.1 pc = .ok (.ifCond cd o, 3)) (q : wkC cd x 0) (ho : 0 ≤ (pc : Int) + o) (hp : ((pc : Int) + o).toNat = pc') (K : wkP l Z B R hs w0 Q ws h k n pc' Ls st) : wkP l Z B R hs w0 Q ws h k n pc Ls (.int x :: st) :=
  .pure (fun p e s m args below meth c vm0 T locs hx hby X t r => XS.ifYes X.here hx rfl (pc0 := pc) rfl (hb hby hd) rfl ((if0 _ _).trans (wkC_t q)) ho hp r) K
theorem wkP.ifF (pc' : Nat) {cd : ClassFile.Cond} {x : Int32} {o : Int} (hd : decode B.2.1 pc = .ok (.ifCond cd o, 3)) (q : ¬ wkC cd x 0) (hp : pc + 3 = pc') (K : wkP l Z B R hs w0 Q ws h k n pc' Ls st) : wkP l Z B R hs w0 Q ws h k n pc Ls (.int x :: st) := by
  subst hp; exact .pure (fun p e s m args below meth c vm0 T locs hx hby X t r => XS.ifNo X.here hx rfl (hb hby hd) rfl ((if0 _ _).trans (wkC_f q)) r) K
theorem wkP.ifnullT (pc' : Nat) {o : Int} (hd : decode B.2.1 pc = .ok (.ifnull o, 3)) (ho : 0 ≤ (pc : Int) + o) (hp : ((pc : Int) + o).toNat = pc') (K : wkP l Z B R hs w0 Q ws h k n pc' Ls st) : wkP l Z B R hs w0 Q ws h k n pc Ls (.null :: st) :=
  .pure (fun p e s m args below meth c vm0 T locs hx hby X t r => XS.ifnullYes X.here hx rfl (pc0 := pc) rfl (hb hby hd) rfl ho hp r) K
theorem wkP.ifnullF (pc' : Nat) {o : Int} {a : Addr} (hd : decode B.2.1 pc = .ok (.ifnull o, 3)) (hp : pc + 3 = pc') (K : wkP l Z B R hs w0 Q ws h k n pc' Ls st) : wkP l Z B R hs w0 Q ws h k n pc Ls (.ref a :: st) := by
  subst hp; exact .pure (fun p e s m args below meth c vm0 T locs hx hby X t r => XS.ifnullNo X.here hx rfl (hb hby hd) rfl r) K
theorem wkP.ifnonnullT (pc' : Nat) {o : Int} {a : Addr} (hd : decode B.2.1 pc = .ok (.ifnonnull o, 3)) (ho : 0 ≤ (pc : Int) + o) (hp : ((pc : Int) + o).toNat = pc') (K : wkP l Z B R hs w0 Q ws h k n pc' Ls st) : wkP l Z B R hs w0 Q ws h k n pc Ls (.ref a :: st) :=
  .pure (fun p e s m args below meth c vm0 T locs hx hby X t r => XS.ifnonnullYes X.here hx rfl (pc0 := pc) rfl (hb hby hd) rfl ho hp r) K
theorem wkP.ifnonnullF (pc' : Nat) {o : Int} (hd : decode B.2.1 pc = .ok (.ifnonnull o, 3)) (hp : pc + 3 = pc') (K : wkP l Z B R hs w0 Q ws h k n pc' Ls st) : wkP l Z B R hs w0 Q ws h k n pc Ls (.null :: st) := by
  subst hp; exact .pure (fun p e s m args below meth c vm0 T locs hx hby X t r => XS.ifnonnullNo X.here hx rfl (hb hby hd) rfl r) K
theorem wkP.acmp (pc' : Nat) {cd : ACond} {x y : Value} {o : Int} (same : Bool) (hd : decode B.2.1 pc = .ok (.if_acmp cd o, 3)) (h1 : x.isRef = true) (h2 : y.isRef = true) (hq : decide (x = y) = same) (ho : 0 ≤ (pc : Int) + o) (hp : pc' = if acV cd same = true then ((pc : Int) + o).toNat else pc + 3) (K : wkP l Z B R hs w0 Q ws h k n pc' Ls st) : wkP l Z B R hs w0 Q ws h k n pc Ls (y :: x :: st) :=
  .pure (fun p e s m args below meth c vm0 T locs hx hby X t r => RoadKit.acmp X hx rfl h1 h2 (pc0 := pc) rfl (hb hby hd) rfl hq ho hp r) K
end Rules

section Facts
variable {Z : State} {h h' : Heap} {a b : Addr} {ty ty' : FieldType} {xs : List Int32} {ws : List Addr} {a0 : Array Value} {C D O n d : String} {v w : Value}
theorem nn0 {x : Nat} : x ∉ ([] : List Nat) := by simp
theorem nn1 {x y : Nat} (q : x ≠ y) : x ∉ [y] := by simpa using q
theorem nnS {x y : Nat} {L : List Nat} (q : x ≠ y) (r : x ∉ L) : x ∉ y :: L := by simpa using ⟨q, r⟩
/-- the array at a holds just these ints -/
def Ia (Z : State) (h : Heap) (a : Addr) (ty : FieldType) (xs : List Int32) : Prop := ∃ c : Cell, Arr Z h a c ty ∧ c.slots = (xs.map Value.int).toArray ∧ (∀ x ∈ xs, fits ty (.int x) = true) ∧ xs.length < 2 ^ 31
theorem exaLt (E : Exa Z h a C) : h.size > a := E.lt
theorem Ia.lt (F : Ia Z h a ty xs) : h.size > a := by obtain ⟨c, A, -⟩ := F; exact A.lt
theorem Ia.keep (F : Ia Z h a ty xs) (K : Keep h h' ws) (q : a ∉ ws) : Ia Z h' a ty xs := by
  obtain ⟨c, A, r⟩ := F; exact ⟨c, ⟨K.2.1 _ _ A.1 q, A.2⟩, r⟩
theorem Ia.len (F : Ia Z h a ty xs) : xs.length < 2 ^ 31 := by obtain ⟨c, -, -, -, r⟩ := F; exact r
theorem Ia.fit (F : Ia Z h a ty xs) : ∀ x ∈ xs, fits ty (.int x) = true := by obtain ⟨c, -, -, r, -⟩ := F; exact r
theorem Ia.of_arv {k : ClassId} {z : Int32} {vs : List Value} (F : Arv Z h a k ty z vs v) (e : vs = xs.map Value.int) (hl : z.toNatClampNeg = vs.length) : Ia Z h a ty xs := by
  obtain ⟨c, A, -, hs, hz, H, G⟩ := F
  subst e
  have hsz : c.slots.size = xs.length := by rw [hs, hl]; simp
  have hb := (back32 hz).2
  refine ⟨c, A, ?_, fun x hx => ?_, by rw [← hsz, hs]; exact hb⟩
  · refine Array.ext (by simpa using hsz) fun i h1 h2 => ?_
    have q := H i h1
    rw [Array.getElem?_eq_getElem h1] at q
    have h3 : i < xs.length := by omega
    simp [List.getD_eq_getElem?_getD, h3] at q ⊢
    exact q
  · obtain ⟨i, hi, rfl⟩ := List.getElem_of_mem hx
    have q := G i (by omega)
    simpa [List.getD_eq_getElem?_getD, hi] using q
theorem Ia.arv (F : Ia Z h a ty xs) : ∃ k, Arv Z h a k ty (Int32.ofNat xs.length) (xs.map Value.int) (.int 0) := by
  obtain ⟨c, A, e, f, r⟩ := F
  have q : (Int32.ofNat xs.length).toNatClampNeg = xs.length := clamp_of rfl r
  have sz : c.slots.size = xs.length := by rw [e]; simp
  refine ⟨c.cls, c, A, rfl, by rw [q, sz], ?_, fun i hi => ?_, fun i hi => ?_⟩
  · have := toInt_of (n := Int32.ofNat xs.length) rfl r
    rw [Int32.lt_iff_toInt_lt, this]; simp
  · rw [e]; simp [List.getD_eq_getElem?_getD, show i < xs.length by omega]
  · have h3 : i < xs.length := by omega
    simpa [List.getD_eq_getElem?_getD, h3] using f _ (List.getElem_mem h3)
theorem Ia.ne (F : Ia Z h a ty xs) {ys : List Int32} (G : Ia Z h b ty' ys) (q : ty ≠ ty') : a ≠ b := fun e => by
  subst e
  obtain ⟨c, A, -⟩ := F
  obtain ⟨c', A', -⟩ := G
  cases A.1.symm.trans A'.1
  obtain ⟨-, k1, q1, c1, r1⟩ := A.2.1
  obtain ⟨-, k2, q2, c2, r2⟩ := A'.2.1
  cases q1.symm.trans q2
  rw [r1] at r2
  injection r2 with _ r3
  exact q r3
theorem exaNeIa {kk : Nat} (E : Exa Z h a C) (wi : (Cond.instantiable C kk).before a0 Z = true) (G : Ia Z h b ty xs) : a ≠ b := by
  obtain ⟨c, A, -⟩ := G
  exact ne_arr E wi A
end Facts
section Rules2
variable {l : Launch} {Z : State} {B : wkB} {R : Room} {hs : Heap} {w0 : List Addr} {Q : Option Value → Heap → List Addr → Prop} {ws : List Addr} {h : Heap} {k n pc : Nat} {Ls : Array Slot} {st : List Value} {a0 : Array Value}
variable {p : Program} {e : Env} {s : State} {m : MethodId} {args : Array Value} {below : List Frame} {meth : Method} {c : Code} {vm0 : Vm} {k0 : Nat} {T T' : State} {locs : List Loc} {h' : Heap} {k' n' : Nat} {a : Addr} {sl : Nat} {v : Value}
theorem keepExt {hh h1 : Heap} (E : Ext hh h1) : Keep hh h1 [] := (Keep.refl _ _).ext E
theorem wkAt.same (A : wkAt p l e R s m args below meth c Z B hs w0 ws h k n vm0 k0 T locs) (X' : Stand p l e R (s.setVm vm0) m args below meth c T' locs k n) (e' : T'.heap = h) : wkAt p l e R s m args below meth c Z B hs w0 ws h k n vm0 k0 T' locs :=
  ⟨A.1, X', e', A.2.2.2⟩
theorem wkAt.ext (A : wkAt p l e R s m args below meth c Z B hs w0 ws h k n vm0 k0 T locs) (X' : Stand p l e R (s.setVm vm0) m args below meth c T' locs k' n') (e' : T'.heap = h') (E : Ext h h') : wkAt p l e R s m args below meth c Z B hs w0 ws h' k' n' vm0 k0 T' locs := by
  obtain ⟨a1, -, -, ⟨a4, a5⟩, a6, a7, a8, a9, a10, a11, a12⟩ := A
  exact ⟨a1, X', e', ⟨a4, Nat.le_trans a5 E.1⟩, a6, a7, a8.trans (CHr.ext E a8.1), a9, a10.ext E, a11.ext E, fun x hx => ⟨(a12 x hx).1, Nat.lt_of_lt_of_le (a12 x hx).2.1 E.1, Safe.ext E a8.1 (a12 x hx).2.2.1, (a12 x hx).2.2.2⟩⟩
theorem wkAt.push (A : wkAt p l e R s m args below meth c Z B hs w0 ws h k n vm0 k0 T locs) (X' : Stand p l e R (s.setVm vm0) m args below meth c T' locs k' n') (e' : T'.heap = h') (E : Ext h h') (ha : h.size ≤ a) (hb : a < h'.size) : wkAt p l e R s m args below meth c Z B hs w0 (a :: ws) h' k' n' vm0 k0 T' locs := by
  have q := A.ext X' e' E
  obtain ⟨a1, -, -, ⟨a4, a5⟩, a6, a7, a8, a9, a10, a11, a12⟩ := A
  obtain ⟨b1, b2, b3, b4, b5, b6, b7, b8, b9, b10, b11⟩ := q
  refine ⟨b1, b2, b3, b4, b5, b6, b7, b8, b9, b10, fun x hx => ?_⟩
  rcases List.mem_cons.mp hx with rfl | hx
  · exact ⟨Nat.le_trans a10.2.1 ha, hb, Safe.ext E a8.1 (Safe.new ha), Or.inr (Nat.le_trans a11.1 ha)⟩
  · exact b11 x hx
theorem wkAt.wr (A : wkAt p l e R s m args below meth c Z B hs w0 ws h k n vm0 k0 T locs) (X' : Stand p l e R (s.setVm vm0) m args below meth c T' (locs ++ [⟨a, sl⟩]) k n) (e' : T'.heap = h') (W : Wr h h' a sl v) (ha : a ∈ ws) : wkAt p l e R s m args below meth c Z B hs w0 ws h' k n vm0 k0 T' (locs ++ [⟨a, sl⟩]) := by
  obtain ⟨a1, -, -, ⟨a4, a5⟩, a6, a7, a8, a9, a10, a11, a12⟩ := A
  obtain ⟨s1, s2, s3, s4⟩ := a12 a ha
  have hsz := W.size
  exact ⟨a1, X', e', ⟨a4, by rw [hsz]; exact a5⟩, a6, a7, a8.trans (CHr.wr W s3 a8.1), Fr.app a9 (fun y hy => by simp at hy; rw [hy]; exact s1), a10.wr W s1, a11.wr W s4, fun x hx => ⟨(a12 x hx).1, by rw [hsz]; exact (a12 x hx).2.1, Safe.wr W s3 a8.1 (a12 x hx).2.2.1, (a12 x hx).2.2.2⟩⟩
theorem wkP.more {k1 n1 : Nat} (hk : k ≤ k1) (hn : n ≤ n1) (K : wkP l Z B R hs w0 Q ws h k1 n1 pc Ls st) : wkP l Z B R hs w0 Q ws h k n pc Ls st := by
  intro p e s m args below meth c vm0 k0 T locs A
  exact K p e s m args below meth c vm0 k0 T locs ⟨A.1, A.2.1.more hk hn, A.2.2⟩
theorem wkP.sub {ws1 : List Addr} (q : ∀ x ∈ ws1, x ∈ ws) (K : wkP l Z B R hs w0 Q ws1 h k n pc Ls st) : wkP l Z B R hs w0 Q ws h k n pc Ls st := by
  intro p e s m args below meth c vm0 k0 T locs A
  obtain ⟨b1, b2, b3, b4, b5, b6, b7, b8, b9, b10, b11⟩ := A
  exact K p e s m args below meth c vm0 k0 T locs ⟨b1, b2, b3, b4, b5, b6, b7, b8, b9, b10, fun x hx => b11 x (q x hx)⟩
/-- what is known wherever a walk stands -/
theorem wkP.know (K : (∀ x ∈ ws, Z.heap.size ≤ x ∧ x < h.size) → Z.heap.size ≤ h.size → Keep hs h w0 → wkP l Z B R hs w0 Q ws h k n pc Ls st) : wkP l Z B R hs w0 Q ws h k n pc Ls st := by
  intro p e s m args below meth c vm0 k0 T locs A
  obtain ⟨b1, b2, b3, b4, b5, b6, b7, b8, b9, b10, b11⟩ := A
  exact K (fun x hx => ⟨(b11 x hx).1, (b11 x hx).2.1⟩) b9.2.1 b10 p e s m args below meth c vm0 k0 T locs ⟨b1, b2, b3, b4, b5, b6, b7, b8, b9, b10, b11⟩
theorem wkP.getF (pc' : Nat) {index : Nat} {R0 O nm d : String} (w : (Cond.fieldLink B.1.cls index R0 nm d).before a0 Z = true) (F : Fld Z h a O nm d v) (via : Via Z R0 O nm d) (hd : decode B.2.1 pc = .ok (.getfield index, 3)) (hp : pc + 3 = pc') (K : wkP l Z B R hs w0 Q ws h k n pc' Ls (v :: st)) : wkP l Z B R hs w0 Q ws h k n pc Ls (.ref a :: st) := by
  subst hp
  intro p e s m args below meth c vm0 k0 T locs A
  obtain ⟨T', X', e', stp⟩ := RoadKit.getF A.2.1 A.1.1 A.2.2.2.2.1 A.2.2.2.2.2.1 (host := "") (Or.inl w) via A.2.2.1 F (g := mkF m pc Ls (.ref a :: st)) rfl rfl (hb A.1.2.1 hd)
  obtain ⟨U, o, q, r⟩ := K p e s m args below meth c vm0 k0 T' locs (A.same X' e')
  exact ⟨U, o, stp _ q, r⟩
theorem wkP.getS (pc' : Nat) {index : Nat} {R0 O nm d : String} (w : (Cond.fieldLink B.1.cls index R0 nm d).before a0 Z = true) (F : Sta Z Z.heap O nm d v) (via : Via Z R0 O nm d) (hd : decode B.2.1 pc = .ok (.getstatic index, 3)) (hp : pc + 3 = pc') (K : wkP l Z B R hs w0 Q ws h k n pc' Ls (v :: st)) : wkP l Z B R hs w0 Q ws h k n pc Ls st := by
  subst hp
  intro p e s m args below meth c vm0 k0 T locs A
  obtain ⟨T', X', e', stp⟩ := RoadKit.getS A.2.1 A.1.1 A.2.2.2.2.1 A.2.2.2.2.2.1 (host := "") w via A.2.2.1 (F.ext A.2.2.2.2.2.2.2.2.1.2) (g := mkF m pc Ls st) rfl (hb A.1.2.1 hd)
  obtain ⟨U, o, q, r⟩ := K p e s m args below meth c vm0 k0 T' locs (A.same X' e')
  exact ⟨U, o, stp _ q, r⟩
theorem wkP.castY (pc' : Nat) {index : Nat} {C : String} (w : (Cond.classLink B.1.cls index C).before a0 Z = true) (F : Ins Z h a C true) (hd : decode B.2.1 pc = .ok (.checkcast index, 3)) (hp : pc + 3 = pc') (K : wkP l Z B R hs w0 Q ws h k n pc' Ls (.ref a :: st)) : wkP l Z B R hs w0 Q ws h k n pc Ls (.ref a :: st) := by
  subst hp
  intro p e s m args below meth c vm0 k0 T locs A
  obtain ⟨T', X', e', stp⟩ := RoadKit.castY A.2.1 A.1.1 A.2.2.2.2.1 A.2.2.2.2.2.1 w A.2.2.1 F (g := mkF m pc Ls (.ref a :: st)) rfl rfl (hb A.1.2.1 hd)
  obtain ⟨U, o, q, r⟩ := K p e s m args below meth c vm0 k0 T' locs (A.same X' e')
  exact ⟨U, o, stp _ q, r⟩
theorem wkP.instY (pc' : Nat) {index : Nat} {C : String} (w : (Cond.classLink B.1.cls index C).before a0 Z = true) (F : Ins Z h a C true) (hd : decode B.2.1 pc = .ok (.instanceof index, 3)) (hp : pc + 3 = pc') (K : wkP l Z B R hs w0 Q ws h k n pc' Ls (.int 1 :: st)) : wkP l Z B R hs w0 Q ws h k n pc Ls (.ref a :: st) := by
  subst hp
  intro p e s m args below meth c vm0 k0 T locs A
  obtain ⟨T', X', e', stp⟩ := RoadKit.instY A.2.1 A.1.1 A.2.2.2.2.1 A.2.2.2.2.2.1 w A.2.2.1 F (g := mkF m pc Ls (.ref a :: st)) rfl rfl (hb A.1.2.1 hd)
  obtain ⟨U, o, q, r⟩ := K p e s m args below meth c vm0 k0 T' locs (A.same X' e')
  exact ⟨U, o, stp _ q, r⟩
theorem wkP.ldcI (pc' : Nat) {index : Nat} {v : Int32} (w : (Cond.constant B.1.cls index v).before a0 Z = true) (hd : decode B.2.1 pc = .ok (.ldc index, 2)) (hp : pc + 2 = pc') (K : wkP l Z B R hs w0 Q ws h k n pc' Ls (.int v :: st)) : wkP l Z B R hs w0 Q ws h k n pc Ls st := by
  subst hp
  intro p e s m args below meth c vm0 k0 T locs A
  obtain ⟨U, o, q, r⟩ := K p e s m args below meth c vm0 k0 T locs A
  exact ⟨U, o, A.2.1.ldcInt A.1.1 (own := B.1.cls) A.2.2.2.2.2.1 (mvT (s := s.setVm vm0) A.2.2.2.2.1 w) (g := mkF m pc Ls st) rfl (hb A.1.2.1 hd) _ q, r⟩
theorem wkP.ldcL (pc' : Nat) {index : Nat} {v : Int64} (w : (Cond.constantLong B.1.cls index v).before a0 Z = true) (hd : decode B.2.1 pc = .ok (.ldc2_w index, 3)) (hp : pc + 3 = pc') (K : wkP l Z B R hs w0 Q ws h k n pc' Ls (.long v :: st)) : wkP l Z B R hs w0 Q ws h k n pc Ls st := by
  subst hp
  intro p e s m args below meth c vm0 k0 T locs A
  obtain ⟨U, o, q, r⟩ := K p e s m args below meth c vm0 k0 T locs A
  exact ⟨U, o, A.2.1.ldc2Long A.1.1 (own := B.1.cls) A.2.2.2.2.2.1 (mvT (s := s.setVm vm0) A.2.2.2.2.1 w) (g := mkF m pc Ls st) rfl (hb A.1.2.1 hd) _ q, r⟩
theorem wkP.instNull (pc' : Nat) {index : Nat} (hd : decode B.2.1 pc = .ok (.instanceof index, 3)) (hp : pc + 3 = pc') (K : wkP l Z B R hs w0 Q ws h k n pc' Ls (.int 0 :: st)) : wkP l Z B R hs w0 Q ws h k n pc Ls (.null :: st) := by
  subst hp; exact .pure (fun p e s m args below meth c vm0 T locs hx hby X t q => X.instanceofNull hx (g := mkF m pc Ls (.null :: st)) rfl rfl (hb hby hd) t q) K
theorem wkP.instNo (pc' : Nat) {index : Nat} {C D : String} (w : (Cond.classLink B.1.cls index C).before a0 Z = true) (E : Exa Z h a D) (F : ∃ c t, Z.vm.findClass D = some c ∧ Z.vm.findClass C = some t ∧ Z.vm.assignable c t = false) (hd : decode B.2.1 pc = .ok (.instanceof index, 3)) (hp : pc + 3 = pc') (K : wkP l Z B R hs w0 Q ws h k n pc' Ls (.int 0 :: st)) : wkP l Z B R hs w0 Q ws h k n pc Ls (.ref a :: st) := by
  subst hp
  intro p e s m args below meth c vm0 k0 T locs A
  obtain ⟨T', X', e', stp⟩ := RoadKit.instNo A.2.1 A.1.1 A.2.2.2.2.1 A.2.2.2.2.2.1 w A.2.2.1 E F (g := mkF m pc Ls (.ref a :: st)) rfl rfl (hb A.1.2.1 hd)
  obtain ⟨U, o, q, r⟩ := K p e s m args below meth c vm0 k0 T' locs (A.same X' e')
  exact ⟨U, o, stp _ q, r⟩
/-- String's one superclass is Object: it is no class that is neither -/
theorem notOf {K : String} {kk : Nat} (w1 : (Cond.superclass "java/lang/String" "java/lang/Object").before a0 Z = true) (w2 : (Cond.noSuperclass "java/lang/Object").before a0 Z = true) (w3 : (Cond.instantiable K kk).before a0 Z = true) (n1 : "java/lang/String" ≠ K) (n2 : "java/lang/Object" ≠ K) : ∃ c t, Z.vm.findClass "java/lang/String" = some c ∧ Z.vm.findClass K = some t ∧ Z.vm.assignable c t = false := by
  obtain ⟨t, kt, g0, g2, g3, g4, -⟩ := Cond.instantiable_spec w3
  obtain ⟨c, h0⟩ := found_sup w1
  obtain ⟨p, k, kp, h1, h2, h3, h4, h5, -, h7⟩ := Cond.superclass_spec h0 w1
  obtain ⟨q, kq, q1, q2, q3, -, -⟩ := Cond.noSuperclass_spec w2
  have e1 := h1.symm.trans q1
  cases e1
  have ne1 := ids_ne h0 g0 n1
  have ne2 := ids_ne h1 g0 n2
  have hi : kt.isInterface = false := by
    cases hq : kt.isInterface
    · rfl
    · rw [hq] at g4; simp at g4
  have ns : ∀ fuel, Z.vm.isSubclassAux fuel c t = false := fun fuel => by
    cases fuel with
    | zero => rfl
    | succ f =>
      cases f with
      | zero => simp [Vm.isSubclassAux, ne1, h2, h4]
      | succ f => simp [Vm.isSubclassAux, ne1, ne2, h2, h4, q2, q3]
  refine ⟨c, t, h0, g0, ?_⟩
  show Z.vm.assignableAux (255 + 1) c t = false
  simp [Vm.assignableAux, ne1, h2, g2, h5, g3, hi, Vm.isSubclass, ns]
theorem wkP.newO (pc' : Nat) {index nn : Nat} {C : String} (w : (Cond.classLink B.1.cls index C).before a0 Z = true) (wi : (Cond.instantiable C nn).before a0 Z = true) (wz : (Cond.initialized C).before a0 Z = true) (hd : decode B.2.1 pc = .ok (.new index, 3)) (hc : k + 1 ≤ R.cells) (hl : n + nn ≤ R.slots) (hp : pc + 3 = pc')
    (K : ∀ (h' : Heap) (a : Addr), h.size ≤ a → h'.size > a → Keep h h' [] → Exa Z h' a C → (∀ {O nm d : String} {ty : FieldType}, Laid Z a0 C O nm d → parseFieldDescriptor d = some ty → Fld Z h' a O nm d (defaultValue ty)) → Unt h' a → wkP l Z B R hs w0 Q (a :: ws) h' (k + 1) (n + nn) pc' Ls (.ref a :: st)) : wkP l Z B R hs w0 Q ws h k n pc Ls st := by
  subst hp
  intro p e s m args below meth c vm0 k0 T locs A
  obtain ⟨T', h', X', e', E', A', D', N', stp⟩ := RoadKit.newO A.2.1 A.1.1 A.2.2.2.2.1 A.2.2.2.2.2.1 w wi wz A.2.2.1 (g := mkF m pc Ls st) rfl (hb A.1.2.1 hd) hc hl
  obtain ⟨U, o, q, r⟩ := K h' h.size (Nat.le_refl _) A'.lt (keepExt E') A' (fun L q => D' L q) N' p e s m args below meth c vm0 k0 T' locs (A.push X' e' E' (Nat.le_refl _) A'.lt)
  exact ⟨U, o, stp _ q, r⟩
theorem nat_of_toInt {z : Int32} {N : Nat} (hz : z.toInt = (N : Int)) : ¬ z < 0 ∧ z.toNatClampNeg = N := by
  constructor
  · rw [Int32.lt_iff_toInt_lt, hz]; simp
  · simp [Int32.toNatClampNeg, hz]
theorem wkP.newP (pc' : Nat) {aty : ArrayType} (ty : FieldType) (N cap : Nat) {z : Int32} (w : (Cond.arrayClass ty).before a0 Z = true) (hty : newarray.typeOf aty = ty) (hdv : defaultValue ty = .int 0) (hf : fits ty (.int 0) = true) (hd : decode B.2.1 pc = .ok (.newarray aty, 2)) (hz : z.toInt = (N : Int)) (hcap : N ≤ cap) (hb8 : cap * 8 ≤ 536870912) (hc : k + 1 ≤ R.cells) (hl : n + cap ≤ R.slots) (hp : pc + 2 = pc')
    (K : ∀ (h' : Heap) (a : Addr), h.size ≤ a → h'.size > a → Keep h h' [] → Ia Z h' a ty (List.replicate N 0) → wkP l Z B R hs w0 Q (a :: ws) h' (k + 1) (n + cap) pc' Ls (.ref a :: st)) : wkP l Z B R hs w0 Q ws h k n pc Ls (.int z :: st) := by
  subst hp hty
  obtain ⟨z1, z2⟩ := nat_of_toInt hz
  intro p e s m args below meth c vm0 k0 T locs A
  obtain ⟨T', h', cA, X', e', E', A', stp⟩ := RoadKit.newP A.2.1 A.1.1 A.2.2.2.2.1 w A.2.2.1 (g := mkF m pc Ls (.int z :: st)) rfl (hb A.1.2.1 hd) rfl z1 (cap := cap) (by omega) hb8 hc hl
  have F : Ia Z h' h.size (newarray.typeOf aty) (List.replicate N 0) := ⟨_, A', by simp [newA, z2, hdv], fun x hx => by rw [List.eq_of_mem_replicate hx]; exact hf, by simp; omega⟩
  obtain ⟨U, o, q, r⟩ := K h' h.size (Nat.le_refl _) A'.lt (keepExt E') F p e s m args below meth c vm0 k0 T' locs (A.push X' e' E' (Nat.le_refl _) A'.lt)
  exact ⟨U, o, stp _ q, r⟩
theorem wkP.putF (pc' : Nat) {index kk : Nat} {O nm d C : String} {ty : FieldType} {old : Value} (w : (Cond.fieldLink B.1.cls index O nm d).before a0 Z = true) (F : Fld Z h a O nm d old) (E : Exa Z h a C) (L : (Cond.lays C O nm d).before a0 Z = true ∨ ((Cond.laysFinal C O nm d).before a0 Z = true ∧ B.1.cls = O ∧ B.1.name = "<init>")) (wi : (Cond.instantiable C kk).before a0 Z = true)
    (hty : parseFieldDescriptor d = some ty) (hn : narrow ty v = v) (hf : fits ty v = true) (hd : decode B.2.1 pc = .ok (.putfield index, 3)) (ha : a ∈ ws) (hp : pc + 3 = pc')
    (K : ∀ h' : Heap, Keep h h' [a] → Wr h h' a (RoadKit.slotOf Z O nm d) v → wkP l Z B R hs w0 Q ws h' k n pc' Ls st) : wkP l Z B R hs w0 Q ws h k n pc Ls (v :: .ref a :: st) := by
  subst hp
  intro p e s m args below meth c vm0 k0 T locs A
  obtain ⟨T', h', X', e', W', stp⟩ := RoadKit.putF A.2.1 A.1.1 A.2.2.2.2.1 A.2.2.2.2.2.1 (host := "") (Or.inl w) Via.refl A.2.2.1 F E (L.imp id fun q => ⟨q.1, q.2.1, A.1.2.2.2.2.2.trans q.2.2⟩) wi hty hn hf (g := mkF m pc Ls (v :: .ref a :: st)) rfl rfl (hb A.1.2.1 hd)
  obtain ⟨U, o, q, r⟩ := K h' (Keep.of_wr W') W' p e s m args below meth c vm0 k0 T' _ (A.wr X' e' W' ha)
  exact ⟨U, o, stp _ q, r⟩
theorem Ia.set {xs : List Int32} {ty : FieldType} {i : Nat} {x : Int32} (F : Ia Z h a ty xs) (W : Wr h h' a i (.int x)) (hx : fits ty (.int x) = true) : Ia Z h' a ty (xs.set i x) := by
  obtain ⟨c, A, e1, f, r⟩ := F
  refine ⟨_, A.same W, by simp [Cell.setSlot, e1], fun y hy => ?_, by simpa using r⟩
  rcases List.mem_or_eq_of_mem_set hy with q | q
  · exact f y q
  · rw [q]; exact hx
theorem in_of {xs : List Int32} {c : Cell} {j : Int32} {i : Nat} (e1 : c.slots = (xs.map Value.int).toArray) (hj : j.toInt = (i : Int)) (hi : i < xs.length) : ¬ (j < 0 ∨ c.slots.size ≤ j.toNatClampNeg) := by
  obtain ⟨z1, z2⟩ := nat_of_toInt hj
  rw [e1, z2]; simp [z1]; omega
theorem wkP.stC (pc' i : Nat) {xs : List Int32} {j x : Int32} (x' : Int32) (F : Ia Z h a .char xs) (hd : decode B.2.1 pc = .ok (.castore, 1)) (hj : j.toInt = (i : Int)) (hi : i < xs.length) (hx' : nar .char x = x') (ha : a ∈ ws) (hp : pc + 1 = pc')
    (K : ∀ h' : Heap, Keep h h' [a] → Ia Z h' a .char (xs.set i x') → wkP l Z B R hs w0 Q ws h' k n pc' Ls st) : wkP l Z B R hs w0 Q ws h k n pc Ls (.int x :: .int j :: .ref a :: st) := by
  subst hp hx'
  intro p e s m args below meth c vm0 k0 T locs A
  have F0 := F
  obtain ⟨cl, Ar, e1, f, r⟩ := F
  obtain ⟨T', h', X', e', W', stp⟩ := RoadKit.stC A.2.1 A.1.1 A.2.2.2.2.1 A.2.2.1 Ar (j := j) (in_of e1 hj hi) (g := mkF m pc Ls (.int x :: .int j :: .ref a :: st)) rfl rfl (hb A.1.2.1 hd)
  rw [(nat_of_toInt hj).2] at W' X'
  obtain ⟨U, o, q, r⟩ := K h' (Keep.of_wr W') (F0.set W' (fits_nar_char x)) p e s m args below meth c vm0 k0 T' _ (A.wr X' e' W' ha)
  exact ⟨U, o, stp _ q, r⟩
theorem wkP.stB (pc' i : Nat) {xs : List Int32} {j x : Int32} (x' : Int32) (F : Ia Z h a .byte xs) (hd : decode B.2.1 pc = .ok (.bastore, 1)) (hj : j.toInt = (i : Int)) (hi : i < xs.length) (hx' : nar .byte x = x') (ha : a ∈ ws) (hp : pc + 1 = pc')
    (K : ∀ h' : Heap, Keep h h' [a] → Ia Z h' a .byte (xs.set i x') → wkP l Z B R hs w0 Q ws h' k n pc' Ls st) : wkP l Z B R hs w0 Q ws h k n pc Ls (.int x :: .int j :: .ref a :: st) := by
  subst hp hx'
  intro p e s m args below meth c vm0 k0 T locs A
  have F0 := F
  obtain ⟨cl, Ar, e1, f, r⟩ := F
  obtain ⟨T', h', X', e', W', stp⟩ := RoadKit.stB A.2.1 A.1.1 A.2.2.2.2.1 A.2.2.1 Ar (j := j) (in_of e1 hj hi) (g := mkF m pc Ls (.int x :: .int j :: .ref a :: st)) rfl rfl (hb A.1.2.1 hd)
  rw [(nat_of_toInt hj).2] at W' X'
  obtain ⟨U, o, q, r⟩ := K h' (Keep.of_wr W') (F0.set W' (fits_nar_byte x)) p e s m args below meth c vm0 k0 T' _ (A.wr X' e' W' ha)
  exact ⟨U, o, stp _ q, r⟩
theorem Ia.at {xs : List Int32} {c : Cell} {i : Nat} {x j : Int32} (e1 : c.slots = (xs.map Value.int).toArray) (hj : j.toInt = (i : Int)) (hx : xs[i]? = some x) : c.slots[j.toNatClampNeg]? = some (.int x) := by
  rw [(nat_of_toInt hj).2, e1]; simp [hx]
theorem wkP.caload (pc' i : Nat) {xs : List Int32} {j : Int32} (x : Int32) (F : Ia Z h a .char xs) (hd : decode B.2.1 pc = .ok (.caload, 1)) (hj : j.toInt = (i : Int)) (hx : xs[i]? = some x) (hp : pc + 1 = pc') (K : wkP l Z B R hs w0 Q ws h k n pc' Ls (.int x :: st)) : wkP l Z B R hs w0 Q ws h k n pc Ls (.int j :: .ref a :: st) := by
  subst hp
  intro p e s m args below meth c vm0 k0 T locs A
  obtain ⟨cl, Ar, e1, f, r⟩ := F
  have hi : i < xs.length := (List.getElem?_eq_some_iff.mp hx).1
  obtain ⟨U, o, q, r⟩ := K p e s m args below meth c vm0 k0 T locs A
  exact ⟨U, o, A.2.1.caload A.1.1 (by rw [A.2.2.1]; exact Ar.1) (State.isArrayOf_alike (T := s.setVm vm0) A.2.2.2.2.1.alike Ar.2.1) Ar.2.2 (in_of e1 hj hi) (Ia.at e1 hj hx) (g := mkF m pc Ls (.int j :: .ref a :: st)) rfl rfl (hb A.1.2.1 hd) _ q, r⟩
theorem wkP.baload (pc' i : Nat) {xs : List Int32} {j : Int32} (x : Int32) (F : Ia Z h a .byte xs) (hd : decode B.2.1 pc = .ok (.baload, 1)) (hj : j.toInt = (i : Int)) (hx : xs[i]? = some x) (hp : pc + 1 = pc') (K : wkP l Z B R hs w0 Q ws h k n pc' Ls (.int x :: st)) : wkP l Z B R hs w0 Q ws h k n pc Ls (.int j :: .ref a :: st) := by
  subst hp
  intro p e s m args below meth c vm0 k0 T locs A
  obtain ⟨cl, Ar, e1, f, r⟩ := F
  have hi : i < xs.length := (List.getElem?_eq_some_iff.mp hx).1
  obtain ⟨U, o, q, r⟩ := K p e s m args below meth c vm0 k0 T locs A
  exact ⟨U, o, A.2.1.baloadBytes A.1.1 (by rw [A.2.2.1]; exact Ar.1) (State.isArrayOf_alike (T := s.setVm vm0) A.2.2.2.2.1.alike Ar.2.1) Ar.2.2 (in_of e1 hj hi) (Ia.at e1 hj hx) (g := mkF m pc Ls (.int j :: .ref a :: st)) rfl rfl (hb A.1.2.1 hd) _ q, r⟩
theorem wkP.alen (pc' : Nat) {xs : List Int32} {ty : FieldType} (z : Int32) (F : Ia Z h a ty xs) (hd : decode B.2.1 pc = .ok (.arraylength, 1)) (hz : Int32.ofNat xs.length = z) (hp : pc + 1 = pc') (K : wkP l Z B R hs w0 Q ws h k n pc' Ls (.int z :: st)) : wkP l Z B R hs w0 Q ws h k n pc Ls (.ref a :: st) := by
  subst hp hz
  intro p e s m args below meth c vm0 k0 T locs A
  obtain ⟨cl, Ar, e1, f, r⟩ := F
  obtain ⟨U, o, q, r⟩ := K p e s m args below meth c vm0 k0 T locs A
  refine ⟨U, o, A.2.1.arraylength A.1.1 (by rw [A.2.2.1]; exact Ar.1) (State.isArrayOf_alike (T := s.setVm vm0) A.2.2.2.2.1.alike Ar.2.1) (g := mkF m pc Ls (.ref a :: st)) rfl rfl (hb A.1.2.1 hd) _ ?_, r⟩
  have sz : cl.slots.size = xs.length := by rw [e1]; simp
  rw [sz]; exact q
theorem wkP.initO (pc' : Nat) {index : Nat} (w1 : (Cond.methodLink B.1.cls index Lib.objectInit).before a0 Z = true) (w2 : (Cond.instanceMethod Lib.objectInit).before a0 Z = true) (w3 : (Cond.code Lib.objectInit ⟨#[0xb1]⟩ 1 none).before a0 Z = true) (hd : decode B.2.1 pc = .ok (.invokespecial index, 3)) (hsz : Ls.size = B.2.2.1)
    (hf : 1 ≤ R.frames) (W : Nat) (hW : 2 * 0 + (st.map fun v => v.category).sum ≤ W) (hl : W + 12 ≤ R.locals) (hp : pc + 3 = pc') (K : wkP l Z B R hs w0 Q ws h k n pc' Ls st) : wkP l Z B R hs w0 Q ws h k n pc Ls (.ref a :: st) := by
  subst hp
  intro p e s m args below meth c vm0 k0 T locs A
  obtain ⟨T', X', e', stp⟩ := RoadKit.initO A.2.1 A.1.1 A.2.2.2.2.1 A.2.2.2.2.2.1 w1 w2 w3 A.2.2.1 (g := mkF m pc Ls (.ref a :: st)) rfl (hsz.trans A.1.2.2.1.symm) rfl (hb A.1.2.1 hd) hf hW hl
  obtain ⟨U, o, q, r⟩ := K p e s m args below meth c vm0 k0 T' locs (A.same X' e')
  exact ⟨U, o, stp _ q, r⟩
theorem wkP.ldc (pc' : Nat) {index : Nat} {text : String} (xs : List Int32) (N : Nat) (w : (Cond.stringLink B.1.cls index text).before a0 Z = true) (wS : ∀ a ∈ Bundle.stringAtoms, a.before a0 Z = true) (hE : EW Z a0 EL) (hmem : (B.1.cls, index) ∈ EL)
    (ht : (∀ c ∈ text.toList, c.toNat < 256) ∧ text.toList.map (fun c => Value.int (Jvm.Lit.byteI c.toNat.toUInt16)) = xs.map Value.int) (hl : text.toList.length = xs.length) (hxl : xs.length < 100000) (hd : decode B.2.1 pc = .ok (.ldc index, 2)) (hn : 4 * text.toList.length ≤ N) (hN : N ≤ 536870912) (hc : k + 2 ≤ R.cells) (hsl : n + (N + 4) ≤ R.slots) (hp : pc + 2 = pc')
    (K : ∀ (h' : Heap) (a b : Addr), Keep h h' [] → Exa Z h' a "java/lang/String" → Fld Z h' a "java/lang/String" "coder" "B" (.int 0) → Fld Z h' a "java/lang/String" "value" "[B" (.ref b) → Ia Z h' b .byte xs → (∀ x ∈ ws, x ≠ a ∧ x ≠ b) → wkP l Z B R hs w0 Q ws h' (k + 2) (n + (N + 4)) pc' Ls (.ref a :: st)) : wkP l Z B R hs w0 Q ws h k n pc Ls st := by
  subst hp
  intro p e s m args below meth c vm0 k0 T locs A
  have hz : (Int32.ofNat xs.length).toInt = (xs.length : Int) := toInt_of rfl (by omega)
  obtain ⟨z1, z2⟩ := nat_of_toInt hz
  obtain ⟨a1, a2, a3, ⟨a4, a5⟩, a6, a7, a8, a9, a10, a11, a12⟩ := A
  obtain ⟨a, T', h', k1, b, kb, X', e', E', S', k1', W', O', q1, q2, q3, q4, q5, q6, C', -, ne, stp⟩ := ldcCH a2 a1.1 a6 a7 w wS a3 a4 a5 hE hmem a8.1 ht z1 (by rw [z2]; simp) (g := mkF m pc Ls st) rfl (hb a1.2.1 hd) hn hN hc hsl
  have sf : ∀ x ∈ ws, Z.heap.size ≤ x ∧ x < h'.size ∧ Safe Z EL T'.vm h' x ∧ (x ∈ w0 ∨ hs.size ≤ x) := fun x hx => ⟨(a12 x hx).1, Nat.lt_of_lt_of_le (a12 x hx).2.1 E'.1, C'.safe (a12 x hx).2.1 (a12 x hx).2.2.1, (a12 x hx).2.2.2⟩
  obtain ⟨U, o, q, r⟩ := K h' a b (keepExt E') q1 q2 q3 (Ia.of_arv q4 rfl (by rw [z2]; simp)) (fun x hx => ne x (sf x hx).2.2.1) p e s m args below meth c T'.vm k1 T' locs ⟨a1, X', e', ⟨S', k1'⟩, W', O', a8.trans C', a9, a10.ext E', a11.ext E', sf⟩
  exact ⟨U, o, stp _ q, r⟩
theorem wkBack {B' : wkB} {rm : Room} {as : Array Value} {wc : List Addr} {Q' : Option Value → Heap → List Addr → Prop} {len W : Nat} (M : wkM l Z B' rm as h wc Q') (hO : Old Z Z.heap.size h) (hw : ∀ x ∈ wc, Z.heap.size ≤ x ∧ x < h.size) (hZ : Z.Warmed39 vm0) (wcd : (Cond.code B'.1 B'.2.1 B'.2.2.1 B'.2.2.2).before a0 Z = true) (wz : (Cond.initialized B'.1.cls).before a0 Z = true)
    (hf : rm.frames + 1 ≤ R.frames) (hl : W + (B'.2.2.1 + 11) + rm.locals ≤ R.locals) (hE : EW Z a0 EL) (H : CHv Z EL vm0 h) (hS : ∀ x ∈ wc, Safe Z EL vm0 h x) :
    BackS l R p e below (s.setVm vm0) args B'.1 len W (fun A a => a = as ∧ A.U.heap = h ∧ A.cells + rm.cells ≤ R.cells ∧ A.slots + rm.slots ≤ R.slots)
      (fun A _ v D => ∃ L os, (Q' v D.U.heap os ∧ Keep h D.U.heap wc ∧ Fr Z.heap.size L ∧ Old Z Z.heap.size D.U.heap ∧ wkSf Z D.U.vm D.U.heap h wc os) ∧ D.locs = A.locs ++ L ∧ D.cells = A.cells + rm.cells ∧ D.slots = A.slots + rm.slots ∧ CHr Z EL vm0 h D.U.vm D.U.heap) :=
  BackS.of_freeW (bytes := B'.2.1) (maxL := B'.2.2.1) (ret := B'.2.2.2) (E := fun _ first o t L k n => k = rm.cells ∧ n = rm.slots ∧ (∃ v os, o = .returned v ∧ (Q' v t.heap os ∧ Keep h t.heap wc ∧ Fr Z.heap.size L ∧ Old Z Z.heap.size t.heap ∧ wkSf Z t.vm t.heap h wc os)) ∧ CHr Z EL first.vm first.heap t.vm t.heap) (M hO hw) hf hl
    (fun m meth c A a Y hp => have hU : Z.Warmed39 A.U.vm := wtrans (s := s.setVm vm0) hZ Y.warmed
      ⟨by show (Cond.and _ .tt).before a A.U = true; rw [Cond.before_and, mv hU wcd]; rfl, mv hU wcd, mv hU wz, hp.2.2.1, hp.2.2.2⟩)
    (fun m meth c A a g mk Y hp => ⟨hp.1, wtrans (s := s.setVm vm0) hZ Y.warmed, hp.2.1, (CHv.at Y hZ hE H).1, fun x hx => (CHv.at Y hZ hE H).safe (hw x hx).2 (hS x hx)⟩) (fun _ _ _ _ _ _ _ _ _ => trivial)
    (fun _ _ _ _ ⟨v, L, h1, ⟨os, h2⟩, h3, h4⟩ => ⟨L, _, _, h4, rfl, rfl, ⟨v, os, h1, h2⟩, h3⟩)
    (fun m meth c A a g mk v t L k n Y hp _ _ ⟨e1, e2, ⟨v', os, e3, e4⟩, e5⟩ => by
      cases e3; subst e1 e2
      refine ⟨L, os, e4, rfl, rfl, rfl, (CHv.at Y hZ hE H).trans ?_⟩
      rw [← hp.2.1]; exact e5)
/-- behind a call: the walk goes on over the tables and the heap that the callee left -/
theorem wkAt.back {U : State} {L : List Loc} {os wc : List Addr} {k2 n2 : Nat} (A : wkAt p l e R s m args below meth c Z B hs w0 ws h k n vm0 k0 T locs) (X' : Stand p l e R ((s.setVm vm0).setVm U.vm) m args below meth c U (locs ++ L) k2 n2) (hS : (s.setVm vm0).Since U.vm U.heap.size) (hg : T.heap.size ≤ U.heap.size)
    (hK : Keep h U.heap wc) (hL : Fr Z.heap.size L) (hO : Old Z Z.heap.size U.heap) (hos : wkSf Z U.vm U.heap h wc os) (hC : CHr Z EL vm0 h U.vm U.heap) (hwc : ∀ x ∈ wc, x ∈ ws) : wkAt p l e R s m args below meth c Z B hs w0 (os ++ ws) U.heap k2 n2 U.vm U.heap.size U (locs ++ L) := by
  obtain ⟨a1, a2, a3, ⟨a4, a5⟩, a6, a7, a8, a9, a10, a11, a12⟩ := A
  obtain ⟨r1, r2, r3, r4⟩ := rebS (own := B.1.cls) a4 (by rw [a3]; exact a5) X' hS hg a6 a7
  refine ⟨a1, r1, rfl, ⟨r2, Nat.le_refl _⟩, r3, r4, a8.trans hC, Fr.app a9 hL, hO, a11.trans hK (fun x hx => (a12 x (hwc x hx)).2.2.2), fun x hx => ?_⟩
  rcases List.mem_append.mp hx with q | q
  · obtain ⟨o1, o2, o3, o4⟩ := hos x q
    refine ⟨o1, o2, o3, ?_⟩
    rcases o4 with o4 | o4
    · exact (a12 x (hwc x o4)).2.2.2
    · exact Or.inr (Nat.le_trans a11.1 o4)
  · exact ⟨(a12 x q).1, Nat.lt_of_lt_of_le (a12 x q).2.1 hK.1, hC.safe (a12 x q).2.1 (a12 x q).2.2.1, (a12 x q).2.2.2⟩
theorem wkP.callS (pc' : Nat) {B' : wkB} {rm : Room} {as : Array Value} {wc : List Addr} {Q' : Option Value → Heap → List Addr → Prop} {index : Nat} (M : wkM l Z B' rm as h wc Q') (argsL rest : List Value) (W : Nat) (hE : EW Z a0 EL)
    (w1 : (Cond.methodLink B.1.cls index B'.1).before a0 Z = true) (w2 : (Cond.static B'.1).before a0 Z = true) (w3 : (Cond.initialized B'.1.cls).before a0 Z = true) (w4 : (Cond.code B'.1 B'.2.1 B'.2.2.1 B'.2.2.2).before a0 Z = true)
    (hy : B'.1.cls ≠ "java/lang/invoke/MethodHandle" ∧ B'.1.cls ≠ "java/lang/invoke/VarHandle") (hd : decode B.2.1 pc = .ok (.invokestatic index, 3)) (hlen : ∀ sig, parseMethodDescriptor B'.1.desc = some sig → argsL.length = sig.parameters.length) (has : argsL.toArray = as) (hst : st = argsL.reverse ++ rest) (hsz : Ls.size = B.2.2.1)
    (hwc : ∀ x ∈ wc, x ∈ ws) (hW : 2 * 0 + (rest.map fun v => v.category).sum ≤ W) (hf : rm.frames + 1 ≤ R.frames) (hl : W + (B'.2.2.1 + 11) + rm.locals ≤ R.locals) (hc : k + rm.cells ≤ R.cells) (hsl : n + rm.slots ≤ R.slots) (hp : pc + 3 = pc')
    (K : ∀ (v : Option Value) (h' : Heap) (os : List Addr), Q' v h' os → Keep h h' wc → wkP l Z B R hs w0 Q (os ++ ws) h' (k + rm.cells) (n + rm.slots) pc' Ls (v.toList ++ rest)) : wkP l Z B R hs w0 Q ws h k n pc Ls st := by
  subst hp hst has
  intro p e s m args below meth c vm0 k0 T locs A
  obtain ⟨a1, a2, a3, ⟨a4, a5⟩, a6, a7, a8, a9, a10, a11, a12⟩ := id A
  obtain ⟨v, vm₁, D, -, X', hS, hg, ⟨L, os, ⟨b1, b2, b3, b4, b5⟩, c1, c2, c3, c4⟩, stp⟩ := callSS a2 a1.1 a7 (mvT (s := s.setVm vm0) a6 w1) (mvT (s := s.setVm vm0) a6 w2) (mvT (s := s.setVm vm0) a6 w3) (mvT (s := s.setVm vm0) a6 w4) hy (wkBack M a10 (fun x hx => ⟨(a12 x (hwc x hx)).1, (a12 x (hwc x hx)).2.1⟩) a6 w4 w3 hf hl hE a8.1 (fun x hx => (a12 x (hwc x hx)).2.2.1)) (g := mkF m pc Ls (argsL.reverse ++ rest)) rfl (hsz.trans a1.2.2.1.symm) hlen rfl hW (hb a1.2.1 hd) (fun _ _ => ⟨rfl, a3, hc, hsl⟩)
  obtain ⟨U, dl, dc, ds⟩ := D
  dsimp only at X' hS hg b1 b2 b4 b5 c1 c2 c3 c4 stp
  subst c1 c2 c3
  obtain ⟨U2, o, q, r⟩ := K v U.heap os b1 b2 p e s m args below meth c U.vm U.heap.size U _ (A.back X' hS hg b2 b3 b4 b5 c4 hwc)
  exact ⟨U2, o, stp.trans q, r⟩
theorem wkP.callI (pc' : Nat) {B' : wkB} {rm : Room} {as : Array Value} {wc : List Addr} {Q' : Option Value → Heap → List Addr → Prop} {index : Nat} (M : wkM l Z B' rm as h wc Q') (argsL rest : List Value) (W : Nat) (hE : EW Z a0 EL)
    (w1 : (Cond.methodLink B.1.cls index B'.1).before a0 Z = true) (w2 : (Cond.instanceMethod B'.1).before a0 Z = true) (w3 : (Cond.initialized B'.1.cls).before a0 Z = true) (w4 : (Cond.code B'.1 B'.2.1 B'.2.2.1 B'.2.2.2).before a0 Z = true) (hnm : B'.1.name = "<init>") (hrt : B'.2.2.2 = none)
    (hy : B'.1.cls ≠ "java/lang/invoke/MethodHandle" ∧ B'.1.cls ≠ "java/lang/invoke/VarHandle") (hd : decode B.2.1 pc = .ok (.invokespecial index, 3)) (hlen : ∀ sig, parseMethodDescriptor B'.1.desc = some sig → argsL.length = sig.parameters.length) (has : (.ref a :: argsL).toArray = as) (hst : st = argsL.reverse ++ .ref a :: rest) (hsz : Ls.size = B.2.2.1)
    (hwc : ∀ x ∈ wc, x ∈ ws) (hW : 2 * 0 + (rest.map fun v => v.category).sum ≤ W) (hf : rm.frames + 1 ≤ R.frames) (hl : W + (B'.2.2.1 + 11) + rm.locals ≤ R.locals) (hc : k + rm.cells ≤ R.cells) (hsl : n + rm.slots ≤ R.slots) (hp : pc + 3 = pc')
    (K : ∀ (v : Option Value) (h' : Heap) (os : List Addr), Q' v h' os → Keep h h' wc → wkP l Z B R hs w0 Q (os ++ ws) h' (k + rm.cells) (n + rm.slots) pc' Ls (v.toList ++ rest)) : wkP l Z B R hs w0 Q ws h k n pc Ls st := by
  subst hp hst has
  intro p e s m args below meth c vm0 k0 T locs A
  obtain ⟨a1, a2, a3, ⟨a4, a5⟩, a6, a7, a8, a9, a10, a11, a12⟩ := id A
  have w4' : (Cond.code B'.1 B'.2.1 B'.2.2.1 none).before a0 Z = true := hrt ▸ w4
  obtain ⟨v, vm₁, D, -, X', hS, hg, ⟨L, os, ⟨b1, b2, b3, b4, b5⟩, c1, c2, c3, c4⟩, stp⟩ := a2.specialBackS a1.1 hnm a7 (mvT (s := s.setVm vm0) a6 w1) (mvT (s := s.setVm vm0) a6 w2) (mvT (s := s.setVm vm0) a6 w4') hy (wkBack M a10 (fun x hx => ⟨(a12 x (hwc x hx)).1, (a12 x (hwc x hx)).2.1⟩) a6 w4 w3 hf hl hE a8.1 (fun x hx => (a12 x (hwc x hx)).2.2.1)) (g := mkF m pc Ls (argsL.reverse ++ .ref a :: rest)) rfl (hsz.trans a1.2.2.1.symm) (Steps.refl _) hlen rfl hW (hb a1.2.1 hd) (fun _ _ => ⟨rfl, a3, hc, hsl⟩)
  obtain ⟨U, dl, dc, ds⟩ := D
  dsimp only at X' hS hg b1 b2 b4 b5 c1 c2 c3 c4 stp
  subst c1 c2 c3
  obtain ⟨U2, o, q, r⟩ := K v U.heap os b1 b2 p e s m args below meth c U.vm U.heap.size U _ (A.back X' hS hg b2 b3 b4 b5 c4 hwc)
  exact ⟨U2, o, stp.trans q, r⟩
theorem wkNFs {C : String} {y : MethodName} (w : (Cond.selects C y y).before a0 Z = true) : ∀ s : State, Z.Warmed39 s.vm → NotFace s y := fun s hZ => notFace_of_selects (args := #[]) (mvT hZ w)
theorem wkP.callV (pc' : Nat) {y : MethodName} {C : String} {B' : wkB} {rm : Room} {as : Array Value} {wc : List Addr} {Q' : Option Value → Heap → List Addr → Prop} {index : Nat} (M : wkM l Z B' rm as h wc Q') (argsL rest : List Value) (W : Nat) (hE : EW Z a0 EL) (E : Exa Z h a C) (NF : ∀ s : State, Z.Warmed39 s.vm → NotFace s y)
    (w1 : (Cond.methodLink B.1.cls index y).before a0 Z = true) (w1' : (Cond.declares y).before a0 Z = true) (w2 : (Cond.selects C y B'.1).before a0 Z = true) (w2' : (Cond.instanceMethod B'.1).before a0 Z = true) (w3 : (Cond.initialized B'.1.cls).before a0 Z = true) (w4 : (Cond.code B'.1 B'.2.1 B'.2.2.1 B'.2.2.2).before a0 Z = true)
    (hy : y.cls ≠ "java/lang/invoke/MethodHandle" ∧ y.cls ≠ "java/lang/invoke/VarHandle") (hd : decode B.2.1 pc = .ok (.invokevirtual index, 3)) (hlen : ∀ sig, parseMethodDescriptor y.desc = some sig → argsL.length = sig.parameters.length) (has : (.ref a :: argsL).toArray = as) (hst : st = argsL.reverse ++ .ref a :: rest) (hsz : Ls.size = B.2.2.1)
    (hwc : ∀ x ∈ wc, x ∈ ws) (hW : 2 * 0 + (rest.map fun v => v.category).sum ≤ W) (hf : rm.frames + 1 ≤ R.frames) (hl : W + (B'.2.2.1 + 11) + rm.locals ≤ R.locals) (hc : k + rm.cells ≤ R.cells) (hsl : n + rm.slots ≤ R.slots) (hp : pc + 3 = pc')
    (K : ∀ (v : Option Value) (h' : Heap) (os : List Addr), Q' v h' os → Keep h h' wc → wkP l Z B R hs w0 Q (os ++ ws) h' (k + rm.cells) (n + rm.slots) pc' Ls (v.toList ++ rest)) : wkP l Z B R hs w0 Q ws h k n pc Ls st := by
  subst hp hst has
  intro p e s m args below meth c vm0 k0 T locs A
  obtain ⟨a1, a2, a3, ⟨a4, a5⟩, a6, a7, a8, a9, a10, a11, a12⟩ := id A
  obtain ⟨cq, kq, i1, i2, i3⟩ := isOf (s := s.setVm vm0) a6 a3 E
  obtain ⟨v, vm₁, D, -, X', hS, hg, ⟨L, os, ⟨b1, b2, b3, b4, b5⟩, c1, c2, c3, c4⟩, stp⟩ := a2.virtualBackS a1.1 (y := y) (z := B'.1) a7 (mvT (s := s.setVm vm0) a6 w1) (mvT (s := s.setVm vm0) a6 w1') (NF (s.setVm vm0) a6) (mvT (s := s.setVm vm0) a6 w2) (mvT (s := s.setVm vm0) a6 w2') hy (wkBack M a10 (fun x hx => ⟨(a12 x (hwc x hx)).1, (a12 x (hwc x hx)).2.1⟩) a6 w4 w3 hf hl hE a8.1 (fun x hx => (a12 x (hwc x hx)).2.2.1)) i1 i3 (g := mkF m pc Ls (argsL.reverse ++ .ref a :: rest)) rfl (hsz.trans a1.2.2.1.symm) (Steps.refl _) hlen rfl hW (hb a1.2.1 hd) (fun _ _ => ⟨rfl, a3, hc, hsl⟩)
  obtain ⟨U, dl, dc, ds⟩ := D
  dsimp only at X' hS hg b1 b2 b4 b5 c1 c2 c3 c4 stp
  subst c1 c2 c3
  obtain ⟨U2, o, q, r⟩ := K v U.heap os b1 b2 p e s m args below meth c U.vm U.heap.size U _ (A.back X' hS hg b2 b3 b4 b5 c4 hwc)
  exact ⟨U2, o, stp.trans q, r⟩
theorem wkP.old (K : Ext Z.heap h → wkP l Z B R hs w0 Q ws h k n pc Ls st) : wkP l Z B R hs w0 Q ws h k n pc Ls st := by
  intro p e s m args below meth c vm0 k0 T locs A
  exact K A.2.2.2.2.2.2.2.2.1.2 p e s m args below meth c vm0 k0 T locs A
theorem wkP.callF (pc' : Nat) {y : MethodName} {C : String} {B' : wkB} {rm : Room} {as : Array Value} {wc : List Addr} {Q' : Option Value → Heap → List Addr → Prop} {index count : Nat} (M : wkM l Z B' rm as h wc Q') (argsL rest : List Value) (W : Nat) (hE : EW Z a0 EL) (E : Exa Z h a C)
    (w1 : (Cond.methodLink B.1.cls index y).before a0 Z = true) (w1' : (Cond.declares y).before a0 Z = true) (wf : (Cond.interfaceMethod y.cls y.cls y.name y.desc).before a0 Z = true) (hfa : ((Cond.interfaceMethod y.cls y.cls y.name y.desc).onTables && (Cond.interfaceMethod y.cls y.cls y.name y.desc).keepsFace) = true) (w2 : (Cond.selects C y B'.1).before a0 Z = true) (w2' : (Cond.instanceMethod B'.1).before a0 Z = true) (wp : (Cond.publicMethod B'.1).before a0 Z = true) (wu : (Cond.unhidden C y.name y.desc).before a0 Z = true) (wk : (Cond.castable C y.cls).before a0 Z = true) (w3 : (Cond.initialized B'.1.cls).before a0 Z = true) (w4 : (Cond.code B'.1 B'.2.1 B'.2.2.1 B'.2.2.2).before a0 Z = true)
    (hy : y.cls ≠ "java/lang/invoke/MethodHandle" ∧ y.cls ≠ "java/lang/invoke/VarHandle") (hd : decode B.2.1 pc = .ok (.invokeinterface index count, 5)) (hlen : ∀ sig, parseMethodDescriptor y.desc = some sig → argsL.length = sig.parameters.length) (has : (.ref a :: argsL).toArray = as) (hst : st = argsL.reverse ++ .ref a :: rest) (hsz : Ls.size = B.2.2.1)
    (hwc : ∀ x ∈ wc, x ∈ ws) (hW : 2 * 0 + (rest.map fun v => v.category).sum ≤ W) (hf : rm.frames + 1 ≤ R.frames) (hl : W + (B'.2.2.1 + 11) + rm.locals ≤ R.locals) (hc : k + rm.cells ≤ R.cells) (hsl : n + rm.slots ≤ R.slots) (hp : pc + 5 = pc')
    (K : ∀ (v : Option Value) (h' : Heap) (os : List Addr), Q' v h' os → Keep h h' wc → wkP l Z B R hs w0 Q (os ++ ws) h' (k + rm.cells) (n + rm.slots) pc' Ls (v.toList ++ rest)) : wkP l Z B R hs w0 Q ws h k n pc Ls st := by
  subst hp hst has
  intro p e s m args below meth c vm0 k0 T locs A
  obtain ⟨a1, a2, a3, ⟨a4, a5⟩, a6, a7, a8, a9, a10, a11, a12⟩ := id A
  obtain ⟨cq, kq, i1, i2, i3⟩ := isOf (s := s.setVm vm0) a6 a3 E
  obtain ⟨v, vm₁, D, -, X', hS, hg, ⟨L, os, ⟨b1, b2, b3, b4, b5⟩, c1, c2, c3, c4⟩, stp⟩ := a2.interfaceBackS a1.1 (xi := y) (y := B'.1) a7 (mvT (s := s.setVm vm0) a6 w1) (mvT (s := s.setVm vm0) a6 w1') (mvT (s := s.setVm vm0) a6 wf hfa) (mvT (s := s.setVm vm0) a6 w2) (mvT (s := s.setVm vm0) a6 w2') (mvT (s := s.setVm vm0) a6 wp) (mvT (s := s.setVm vm0) a6 wu) (mvT (s := s.setVm vm0) a6 wk) hy (wkBack M a10 (fun x hx => ⟨(a12 x (hwc x hx)).1, (a12 x (hwc x hx)).2.1⟩) a6 w4 w3 hf hl hE a8.1 (fun x hx => (a12 x (hwc x hx)).2.2.1)) i1 i2 i3 (g := mkF m pc Ls (argsL.reverse ++ .ref a :: rest)) rfl (hsz.trans a1.2.2.1.symm) (Steps.refl _) hlen rfl hW (hb a1.2.1 hd) (fun _ _ => ⟨rfl, a3, hc, hsl⟩)
  obtain ⟨U, dl, dc, ds⟩ := D
  dsimp only at X' hS hg b1 b2 b4 b5 c1 c2 c3 c4 stp
  subst c1 c2 c3
  obtain ⟨U2, o, q, r⟩ := K v U.heap os b1 b2 p e s m args below meth c U.vm U.heap.size U _ (A.back X' hS hg b2 b3 b4 b5 c4 hwc)
  exact ⟨U2, o, stp.trans q, r⟩
theorem wkMore {s U : State} {o : Outcome} {L : List Loc} {k n k1 n1 : Nat} (hE : ReturnedEndW s o U L k n) (hk : k ≤ k1) (hn : n ≤ n1) : ReturnedEndW s o U L k1 n1 := ⟨hE.1, hE.2.1, hE.2.2.1, hE.2.2.2.mono hk hn⟩
theorem wkP.leave {rv : Option Value} {stk : List Value} (os : List Addr) (hE : EW Z a0 EL) (hq : Q rv h os) (hos : ∀ x ∈ os, x ∈ ws) (hk : k ≤ R.cells) (hn : n ≤ R.slots) (hv : B.2.2.2 = none → rv = none)
    (hst : ∀ (p : Program) (e : Env) (s : State) (m : MethodId) (args : Array Value) (below : List Frame) (meth : Method) (c : Code) (vm0 : Vm) (T : State) (locs : List Loc), p.tables.exec = Jvm.exec → c.code = B.2.1 → meth.sig.returnType = B.2.2.2 → Stand p l e R (s.setVm vm0) m args below meth c T locs k n → ∀ fs, (∀ (f : JFrame) (acts : List Action), f.method = m → f.locked = none → f.entered = [] → (doReturn e (T.setTop f) acts rv).1 = T.setFrames fs) → Steps p.tables e below (T.setTop (mkF m pc Ls stk)) (T.setFrames fs)) : wkP l Z B R hs w0 Q ws h k n pc Ls stk := by
  intro p e s m args below meth c vm0 k0 T locs A
  obtain ⟨a1, a2, a3, ⟨a4, a5⟩, a6, a7, a8, a9, a10, a11, a12⟩ := A
  obtain ⟨fs, hr, hrun, hended, hend⟩ := a2.leaveW a4 (by rw [a3]; exact a5) (v := rv) (fun q => hv (a1.2.2.2.1.symm.trans q)) a1.2.2.2.2.1
  have C1 := CHv.at a2 a6 hE a8.1
  subst a3
  exact ⟨_, _, hst p e s m args below meth c vm0 T locs a1.1 a1.2.1 a1.2.2.2.1 a2 fs hr, hrun, hended, rv, locs, rfl, ⟨os, hq, a11, a9, a10, fun x hx => ⟨(a12 x (hos x hx)).1, (a12 x (hos x hx)).2.1, C1.safe (a12 x (hos x hx)).2.1 (a12 x (hos x hx)).2.2.1, (a12 x (hos x hx)).2.2.2⟩⟩, a8.trans C1, wkMore hend hk hn⟩
theorem wkP.ret {i : Instr} {w : Value} (t : FieldType) (os : List Addr) (hE : EW Z a0 EL) (hd : decode B.2.1 pc = .ok (i, 1)) (hret : B.2.2.2 = some t) (hnr : narrow t w = w)
    (hi : (i = .ireturn ∧ (t = .int ∨ t = .boolean ∨ t = .byte ∨ t = .char ∨ t = .short) ∧ ∃ z, w = .int z) ∨ (i = .lreturn ∧ t = .long ∧ ∃ z, w = .long z) ∨ (i = .dreturn ∧ t = .double ∧ ∃ z, w = .double z) ∨ (i = .freturn ∧ t = .float ∧ ∃ z, w = .float z) ∨ (i = .areturn ∧ t.isReference = true ∧ w.isRef = true))
    (hk : k ≤ R.cells) (hn : n ≤ R.slots) (hos : ∀ x ∈ os, x ∈ ws) (hq : Q (some w) h os) : wkP l Z B R hs w0 Q ws h k n pc Ls (w :: st) :=
  .leave os hE hq hos hk hn (fun q => by rw [hret] at q; cases q) (fun p e s m args below meth c vm0 T locs hx hby hr X fs hl => retOut X hx (hr.trans hret) hnr hi (hb hby hd) hl)
theorem wkP.retA {a : Addr} (t : FieldType) (os : List Addr) (hE : EW Z a0 EL) (hd : decode B.2.1 pc = .ok (.areturn, 1)) (hret : B.2.2.2 = some t) (ht : t.isReference = true)
    (hk : k ≤ R.cells) (hn : n ≤ R.slots) (hos : ∀ x ∈ os, x ∈ ws) (hq : Q (some (.ref a)) h os) : wkP l Z B R hs w0 Q ws h k n pc Ls (.ref a :: st) :=
  .ret t os hE hd hret (by cases t <;> first | rfl | exact Bool.noConfusion ht) (Or.inr (Or.inr (Or.inr (Or.inr ⟨rfl, ht, rfl⟩)))) hk hn hos hq
theorem wkP.retI {z : Int32} (t : FieldType) (os : List Addr) (hE : EW Z a0 EL) (hd : decode B.2.1 pc = .ok (.ireturn, 1)) (hret : B.2.2.2 = some t) (ht : t = .int ∨ t = .boolean ∨ t = .byte ∨ t = .char ∨ t = .short) (hnr : narrow t (.int z) = .int z)
    (hk : k ≤ R.cells) (hn : n ≤ R.slots) (hos : ∀ x ∈ os, x ∈ ws) (hq : Q (some (.int z)) h os) : wkP l Z B R hs w0 Q ws h k n pc Ls (.int z :: st) :=
  .ret t os hE hd hret hnr (Or.inl ⟨rfl, ht, z, rfl⟩) hk hn hos hq
theorem wkP.ret0 (os : List Addr) (hE : EW Z a0 EL) (hd : decode B.2.1 pc = .ok (.return_, 1)) (hret : B.2.2.2 = none)
    (hk : k ≤ R.cells) (hn : n ≤ R.slots) (hos : ∀ x ∈ os, x ∈ ws) (hq : Q none h os) : wkP l Z B R hs w0 Q ws h k n pc Ls [] :=
  .leave os hE hq hos hk hn (fun _ => rfl) (fun p e s m args below meth c vm0 T locs hx hby hr X fs hl => X.returnOut hx (hr.trans hret) (hb hby hd) hl)
theorem wkM.of {B : wkB} {rm : Room} {as : Array Value} {w0 : List Addr} (Ls : Array Slot) (hpl : plainFor B.1 = true) (he : ∀ m, entryFrame m as B.2.2.1 = mkF m 0 Ls []) (K : wkP l Z B rm h w0 Q w0 h 0 0 0 Ls []) : wkM l Z B rm as h w0 Q := by
  intro hO hw
  refine MetFree.of_bodySF hpl hisR ?_
  intro p e s m args below meth c s₁ Bd hml hP hK
  obtain ⟨rfl, hZ, hh, hC, hS⟩ := hP
  have X0 : Stand p l e rm s m args below meth c s₁ [] 0 0 := Stand.of_body Bd
  have e0 : s₁.heap = h := by rw [← hh, Bd.state]; rfl
  subst hh
  obtain ⟨U, o, st, r⟩ := K p e s m args below meth c s.vm s.heap.size s₁ [] ⟨⟨Bd.exec, Bd.bytes, hml, Bd.returns, Bd.notSynchronized, (name_of_methodNamed Bd.named Bd.method).1⟩, X0, e0, ⟨(State.WarmedH.refl s).since _, Nat.le_refl _⟩, hZ, findClass_of_methodNamed Bd.named, CHr.refl hC, Fr.nil _, hO, Keep.refl _ _, fun x hx => ⟨(hw x hx).1, (hw x hx).2, hS x hx, Or.inl hx⟩⟩
  exact ⟨U, o, castTop (he m) st, r⟩
theorem wkM.mono {B : wkB} {rm : Room} {as : Array Value} {w0 : List Addr} {Q2 : Option Value → Heap → List Addr → Prop} (M : wkM l Z B rm as h w0 Q) (q : ∀ v h' os, Q v h' os → Q2 v h' os) : wkM l Z B rm as h w0 Q2 := by
  intro hO hw p e ha hc hk s m args below hf happ hP hK
  obtain ⟨n, o, h1, h2, h3, v, L, e1, ⟨os, b1, b2⟩, r⟩ := M hO hw p e ha hc hk s m args below hf happ hP hK
  exact ⟨n, o, h1, h2, h3, v, L, e1, ⟨os, q _ _ _ b1, b2⟩, r⟩
end Rules2
end WK

section Str
/-- what is known all along: the sheet's words, the literals' texts, compact strings are on -/
def G (Z : State) (a0 : Array Value) : Prop := (∀ d ∈ tables_1, d.before a0 Z = true) ∧ EW Z a0 EL ∧ (∃ z : Int32, Sta Z Z.heap "java/lang/String" "COMPACT_STRINGS" "Z" (.int z) ∧ ¬ z = 0) ∧ (∃ v : Value, Sta Z Z.heap "jdk/internal/util/Preconditions" "SIOOBE_FORMATTER" "Ljava/util/function/BiFunction;" v ∧ v.isRef = true) ∧ Sta Z Z.heap "java/lang/StringUTF16" "$assertionsDisabled" "Z" (.int 1) ∧ Sta Z Z.heap "java/lang/StringUTF16" "HI_BYTE_SHIFT" "I" (.int 0) ∧ Sta Z Z.heap "java/lang/StringUTF16" "LO_BYTE_SHIFT" "I" (.int 8)
theorem ofNat_lt {i j : Nat} (hi : i < 2 ^ 31) (hj : j < 2 ^ 31) : Int32.ofNat i < Int32.ofNat j ↔ i < j := by
  rw [Int32.lt_iff_toInt_lt, toInt_of (n := Int32.ofNat i) rfl hi, toInt_of (n := Int32.ofNat j) rfl hj]; omega
theorem ofNat_inj {i j : Nat} (hi : i < 2 ^ 31) (hj : j < 2 ^ 31) : Int32.ofNat i = Int32.ofNat j ↔ i = j := by
  constructor
  · intro q
    have := congrArg Int32.toInt q
    rw [toInt_of (n := Int32.ofNat i) rfl hi, toInt_of (n := Int32.ofNat j) rfl hj] at this; omega
  · intro q; rw [q]
theorem toI {i : Nat} (hi : i < 2 ^ 31) : (Int32.ofNat i).toInt = (i : Int) := toInt_of rfl hi
theorem inc1 (i : Nat) : Int32.ofNat i + Int32.ofInt 1 = Int32.ofNat (i + 1) := (inc_ofNat i).symm
def lo8 (c : Int32) : Int32 := c.toInt8.toInt32
theorem lo8_i (c : Int32) : (lo8 c).toInt = c.toInt.bmod 256 := by simp [lo8]
theorem nar_lo8 (c : Int32) : nar .byte (lo8 c) = lo8 c := by
  show (lo8 c).toInt8.toInt32 = lo8 c
  rw [← Int32.toInt_inj]
  show (lo8 (lo8 c)).toInt = _
  rw [lo8_i, lo8_i]; simp
def lat (cs : List Int32) : Prop := ∀ c ∈ cs, ¬ c < 0 ∧ ¬ 255 < c
theorem lo8_inj {c d : Int32} (hc : ¬ c < 0 ∧ ¬ 255 < c) (hd : ¬ d < 0 ∧ ¬ 255 < d) (q : lo8 c = lo8 d) : c = d := by
  have := congrArg Int32.toInt q
  rw [lo8_i, lo8_i] at this
  rw [← Int32.toInt_inj]
  simp only [Int32.lt_iff_toInt_lt, Int32.reduceToInt] at hc hd
  simp only [Int.bmod_def] at this
  omega
theorem lat_map_inj : ∀ {cs ds : List Int32}, lat cs → lat ds → cs.map lo8 = ds.map lo8 → cs = ds
  | [], [], _, _, _ => rfl
  | [], _ :: _, _, _, q => by simp at q
  | _ :: _, [], _, _, q => by simp at q
  | c :: cs, d :: ds, h1, h2, q => by
    simp only [List.map_cons, List.cons.injEq] at q
    rw [lo8_inj (h1 c (by simp)) (h2 d (by simp)) q.1, lat_map_inj (fun x hx => h1 x (by simp [hx])) (fun x hx => h2 x (by simp [hx])) q.2]
/-- the String at a is compact, its bytes (at b) those of these chars -/
def SL (Z : State) (h : Heap) (a b : Addr) (cs : List Int32) : Prop := Exa Z h a "java/lang/String" ∧ Fld Z h a "java/lang/String" "coder" "B" (.int 0) ∧ Fld Z h a "java/lang/String" "value" "[B" (.ref b) ∧ Ia Z h b .byte (cs.map lo8) ∧ lat cs
theorem SL.keep {Z : State} {h h' : Heap} {a b : Addr} {cs : List Int32} {ws : List Addr} (F : SL Z h a b cs) (K : Keep h h' ws) (qa : a ∉ ws) (qb : b ∉ ws) : SL Z h' a b cs := ⟨F.1.keep K, F.2.1.keep K qa, F.2.2.1.keep K qa, F.2.2.2.1.keep K qb, F.2.2.2.2⟩
theorem SL.lta {Z : State} {h : Heap} {a b : Addr} {cs : List Int32} (F : SL Z h a b cs) : h.size > a := F.1.lt
theorem SL.ltb {Z : State} {h : Heap} {a b : Addr} {cs : List Int32} (F : SL Z h a b cs) : h.size > b := F.2.2.2.1.lt
theorem SL.len {Z : State} {h : Heap} {a b : Addr} {cs : List Int32} (F : SL Z h a b cs) : cs.length < 2 ^ 31 := by have := F.2.2.2.1.len; simpa using this
theorem narB0 {z : Int32} (q : z = 0 ∨ z = 1) : narrow .boolean (.int z) = .int z := by rcases q with rfl | rfl <;> rfl

def hi8 (c : Int32) : Int32 := (c >>> ((8 : Int32) &&& 31)).toInt8.toInt32
def chs (cs : List Int32) : Prop := ∀ c ∈ cs, ¬ c < 0 ∧ ¬ 65535 < c
def u16 : List Int32 → List Int32
  | [] => []
  | c :: cs => lo8 c :: hi8 c :: u16 cs
theorem u16_len : ∀ cs : List Int32, (u16 cs).length = 2 * cs.length
  | [] => rfl
  | _ :: cs => by simp [u16, u16_len cs]; omega
theorem u16_at : ∀ (cs : List Int32) (i : Nat) (c : Int32), cs[i]? = some c → (u16 cs)[2 * i]? = some (lo8 c) ∧ (u16 cs)[2 * i + 1]? = some (hi8 c)
  | [], i, c, q => by simp at q
  | d :: cs, 0, c, q => by simp at q; simp [u16, q]
  | d :: cs, i + 1, c, q => by
    have := u16_at cs i c (by simpa using q)
    simpa [u16, show 2 * (i + 1) = 2 * i + 1 + 1 by omega] using this
theorem u16_ext {cs ys : List Int32} (hl : ys.length = 2 * cs.length) (hj : ∀ j, j < cs.length → ∃ c, cs[j]? = some c ∧ ys[2 * j]? = some (lo8 c) ∧ ys[2 * j + 1]? = some (hi8 c)) : ys = u16 cs := by
  refine List.ext_getElem? fun t => ?_
  rcases Nat.lt_or_ge t (2 * cs.length) with q | q
  · obtain ⟨c, c1, c2, c3⟩ := hj (t / 2) (by omega)
    have := u16_at cs (t / 2) c c1
    rcases Nat.mod_two_eq_zero_or_one t with r | r
    · rw [show t = 2 * (t / 2) by omega, c2, this.1]
    · rw [show t = 2 * (t / 2) + 1 by omega, c3, this.2]
  · rw [List.getElem?_eq_none (by omega), List.getElem?_eq_none (by rw [u16_len]; exact q)]
theorem shr0 (c : Int32) : c >>> ((0 : Int32) &&& 31) = c := by
  have h : (c >>> ((0 : Int32) &&& 31)).toInt = c.toInt / 1 := c_ishr c 0 0 (by decide)
  rw [← Int32.toInt_inj, h]; omega
theorem shl0 (c : Int32) : c <<< ((0 : Int32) &&& 31) = c := by
  have h : ((c <<< ((0 : Int32) &&& 31)).toInt - c.toInt * 1) % 4294967296 = 0 := c_ishl c 0 0 (by decide)
  have h1 := rng32 c
  have h2 := rng32 (c <<< ((0 : Int32) &&& 31))
  rw [← Int32.toInt_inj]; omega
theorem nn_of {i : Nat} (hi : i < 2 ^ 31) : ¬ Int32.ofNat i < 0 := by
  rw [Int32.lt_iff_toInt_lt, toI hi]; simp only [Int32.reduceToInt]; omega
theorem shl1 {i : Nat} (hi : 2 * i < 2 ^ 31) : Int32.ofNat i <<< ((1 : Int32) &&& 31) = Int32.ofNat (2 * i) := by
  have h : ((Int32.ofNat i <<< ((1 : Int32) &&& 31)).toInt - (Int32.ofNat i).toInt * 2) % 4294967296 = 0 := c_ishl (Int32.ofNat i) 1 1 (by decide)
  have h2 := rng32 (Int32.ofNat i <<< ((1 : Int32) &&& 31))
  rw [← Int32.toInt_inj, toI hi]; rw [toI (show i < 2 ^ 31 by omega)] at h; omega
theorem shr1 {i : Nat} (hi : 2 * i < 2 ^ 31) : Int32.ofNat (2 * i) >>> ((1 : Int32) &&& 31) = Int32.ofNat i := by
  have h : (Int32.ofNat (2 * i) >>> ((1 : Int32) &&& 31)).toInt = (Int32.ofNat (2 * i)).toInt / 2 := c_ishr _ 1 1 (by decide)
  rw [toI hi] at h
  rw [← Int32.toInt_inj, h, toI (show i < 2 ^ 31 by omega)]; omega
theorem hi8_i (c : Int32) : (hi8 c).toInt = (c.toInt / 256).bmod 256 := by
  have h := c_ishr c 8 8 (by decide)
  show (lo8 (c >>> ((8 : Int32) &&& 31))).toInt = _
  rw [lo8_i, h]; rfl
theorem nar_hi8 (c : Int32) : nar .byte (hi8 c) = hi8 c := nar_lo8 _
theorem i2c_ch {x : Int32} (q : ¬ x < 0 ∧ ¬ 65535 < x) : x.toUInt32.toUInt16.toUInt32.toInt32 = x := by
  have h := c_i2c x
  rw [← Int32.toInt_inj]
  simp only [Int32.lt_iff_toInt_lt, Int32.reduceToInt] at q
  omega
theorem nar_c {x : Int32} (q : ¬ x < 0 ∧ ¬ 65535 < x) : nar .char x = x := i2c_ch q
theorem lat_get {c : Int32} (q : ¬ c < 0 ∧ ¬ 255 < c) : (lo8 c &&& 255).toUInt32.toUInt16.toUInt32.toInt32 = c := by
  rw [i2c_mask]
  have h1 := c_mask (lo8 c) 255 8 (by decide) (by decide)
  rw [lo8_i] at h1
  rw [← Int32.toInt_inj, h1]
  simp only [Int32.lt_iff_toInt_lt, Int32.reduceToInt] at q
  simp only [Int.bmod_def]; omega
theorem u16_get {c : Int32} (q : ¬ c < 0 ∧ ¬ 65535 < c) : ((lo8 c &&& 255) ||| ((hi8 c &&& 255) <<< ((8 : Int32) &&& 31))).toUInt32.toUInt16.toUInt32.toInt32 = c := by
  have h1 := c_mask (lo8 c) 255 8 (by decide) (by decide)
  have h2 := c_mask (hi8 c) 255 8 (by decide) (by decide)
  rw [lo8_i] at h1
  rw [hi8_i] at h2
  have h3 := c_ishl (hi8 c &&& 255) 8 8 (by decide)
  have h4 := rng32 ((hi8 c &&& 255) <<< ((8 : Int32) &&& 31))
  simp only [Int32.lt_iff_toInt_lt, Int32.reduceToInt] at q
  simp only [Int.bmod_def] at h1 h2
  have h5 := c_or' (lo8 c &&& 255) ((hi8 c &&& 255) <<< ((8 : Int32) &&& 31)) 8 (by decide) 256 (by decide) (by omega) (by omega) (by omega)
  have h6 := rng32 ((lo8 c &&& 255) ||| ((hi8 c &&& 255) <<< ((8 : Int32) &&& 31)))
  have h7 := c_i2c ((lo8 c &&& 255) ||| ((hi8 c &&& 255) <<< ((8 : Int32) &&& 31)))
  rw [← Int32.toInt_inj]
  omega
/-- the String at a is UTF16 -/
def SU (Z : State) (h : Heap) (a b : Addr) (cs : List Int32) : Prop := Exa Z h a "java/lang/String" ∧ Fld Z h a "java/lang/String" "coder" "B" (.int 1) ∧ Fld Z h a "java/lang/String" "value" "[B" (.ref b) ∧ Ia Z h b .byte (u16 cs) ∧ chs cs ∧ ¬ lat cs
theorem SU.keep {Z : State} {h h' : Heap} {a b : Addr} {cs : List Int32} {ws : List Addr} (F : SU Z h a b cs) (K : Keep h h' ws) (qa : a ∉ ws) (qb : b ∉ ws) : SU Z h' a b cs := ⟨F.1.keep K, F.2.1.keep K qa, F.2.2.1.keep K qa, F.2.2.2.1.keep K qb, F.2.2.2.2⟩
/-- the String at a spells these chars -/
def St (Z : State) (h : Heap) (a b : Addr) (cs : List Int32) : Prop := SL Z h a b cs ∨ SU Z h a b cs
theorem St.keep {Z : State} {h h' : Heap} {a b : Addr} {cs : List Int32} {ws : List Addr} (F : St Z h a b cs) (K : Keep h h' ws) (qa : a ∉ ws) (qb : b ∉ ws) : St Z h' a b cs := F.imp (·.keep K qa qb) (·.keep K qa qb)
theorem St.exa {Z : State} {h : Heap} {a b : Addr} {cs : List Int32} (F : St Z h a b cs) : Exa Z h a "java/lang/String" := F.elim (·.1) (·.1)
theorem St.lta {Z : State} {h : Heap} {a b : Addr} {cs : List Int32} (F : St Z h a b cs) : h.size > a := F.exa.lt
theorem St.ltb {Z : State} {h : Heap} {a b : Addr} {cs : List Int32} (F : St Z h a b cs) : h.size > b := F.elim (·.2.2.2.1.lt) (·.2.2.2.1.lt)
theorem St.ch {Z : State} {h : Heap} {a b : Addr} {cs : List Int32} (F : St Z h a b cs) : chs cs := F.elim (fun q c hc => ⟨(q.2.2.2.2 c hc).1, by have := (q.2.2.2.2 c hc).2; simp only [Int32.lt_iff_toInt_lt, Int32.reduceToInt] at this ⊢; omega⟩) (·.2.2.2.2.1)
theorem St.len {Z : State} {h : Heap} {a b : Addr} {cs : List Int32} (F : St Z h a b cs) : cs.length < 2 ^ 31 := F.elim (·.len) (fun q => by have := q.2.2.2.1.len; rw [u16_len] at this; omega)
theorem lat_em (cs : List Int32) : lat cs ∨ ¬ lat cs := Classical.em _
end Str
theorem w0 {Z : State} {a0 : Array Value} (hw : ∀ d ∈ tables_1, d.before a0 Z = true) : (Jvm.Cond.arrayClass Jvm.ClassFile.FieldType.char).before a0 Z = true := hw _ (List.mem_of_getElem? (i := 0) rfl)
theorem w1 {Z : State} {a0 : Array Value} (hw : ∀ d ∈ tables_1, d.before a0 Z = true) : (Jvm.Cond.methodLink "com/example/vestline/vestline/input/SurrogatesFindUnpairedPinLaw" (7 : Nat) ({ cls := "com/example/vestline/vestline/input/SurrogatesFindUnpairedPinLaw", name := "draw", desc := "(I)C" } : Jvm.MethodName)).before a0 Z = true := hw _ (List.mem_of_getElem? (i := 1) rfl)
theorem w2 {Z : State} {a0 : Array Value} (hw : ∀ d ∈ tables_1, d.before a0 Z = true) : (Jvm.Cond.static ({ cls := "com/example/vestline/vestline/input/SurrogatesFindUnpairedPinLaw", name := "draw", desc := "(I)C" } : Jvm.MethodName)).before a0 Z = true := hw _ (List.mem_of_getElem? (i := 2) rfl)
theorem w3 {Z : State} {a0 : Array Value} (hw : ∀ d ∈ tables_1, d.before a0 Z = true) : (Jvm.Cond.initialized "com/example/vestline/vestline/input/SurrogatesFindUnpairedPinLaw").before a0 Z = true := hw _ (List.mem_of_getElem? (i := 3) rfl)
theorem w4 {Z : State} {a0 : Array Value} (hw : ∀ d ∈ tables_1, d.before a0 Z = true) : (Jvm.Cond.code ({ cls := "com/example/vestline/vestline/input/SurrogatesFindUnpairedPinLaw", name := "draw", desc := "(I)C" } : Jvm.MethodName) method_3_code (2 : Nat) (Option.some Jvm.ClassFile.FieldType.char)).before a0 Z = true := hw _ (List.mem_of_getElem? (i := 4) rfl)
theorem w5 {Z : State} {a0 : Array Value} (hw : ∀ d ∈ tables_1, d.before a0 Z = true) : (Jvm.Cond.methodLink "com/example/vestline/vestline/input/SurrogatesFindUnpairedPinLaw" (13 : Nat) ({ cls := "com/example/vestline/vestline/input/SurrogatesFindUnpairedPinLaw", name := "make", desc := "(I[C)Ljava/lang/String;" } : Jvm.MethodName)).before a0 Z = true := hw _ (List.mem_of_getElem? (i := 5) rfl)
theorem w6 {Z : State} {a0 : Array Value} (hw : ∀ d ∈ tables_1, d.before a0 Z = true) : (Jvm.Cond.static ({ cls := "com/example/vestline/vestline/input/SurrogatesFindUnpairedPinLaw", name := "make", desc := "(I[C)Ljava/lang/String;" } : Jvm.MethodName)).before a0 Z = true := hw _ (List.mem_of_getElem? (i := 6) rfl)
theorem w7 {Z : State} {a0 : Array Value} (hw : ∀ d ∈ tables_1, d.before a0 Z = true) : (Jvm.Cond.code ({ cls := "com/example/vestline/vestline/input/SurrogatesFindUnpairedPinLaw", name := "make", desc := "(I[C)Ljava/lang/String;" } : Jvm.MethodName) method_4_code (2 : Nat) (Option.some (Jvm.ClassFile.FieldType.object "java/lang/String"))).before a0 Z = true := hw _ (List.mem_of_getElem? (i := 7) rfl)
theorem w8 {Z : State} {a0 : Array Value} (hw : ∀ d ∈ tables_1, d.before a0 Z = true) : (Jvm.Cond.classLink "com/example/vestline/vestline/input/SurrogatesFindUnpairedPinLaw" (29 : Nat) "java/lang/String").before a0 Z = true := hw _ (List.mem_of_getElem? (i := 8) rfl)
theorem w9 {Z : State} {a0 : Array Value} (hw : ∀ d ∈ tables_1, d.before a0 Z = true) : (Jvm.Cond.instantiable "java/lang/String" (4 : Nat)).before a0 Z = true := hw _ (List.mem_of_getElem? (i := 9) rfl)
theorem w10 {Z : State} {a0 : Array Value} (hw : ∀ d ∈ tables_1, d.before a0 Z = true) : (Jvm.Cond.initialized "java/lang/String").before a0 Z = true := hw _ (List.mem_of_getElem? (i := 10) rfl)
theorem w11 {Z : State} {a0 : Array Value} (hw : ∀ d ∈ tables_1, d.before a0 Z = true) : (Jvm.Cond.methodLink "com/example/vestline/vestline/input/SurrogatesFindUnpairedPinLaw" (31 : Nat) ({ cls := "java/lang/String", name := "<init>", desc := "([C)V" } : Jvm.MethodName)).before a0 Z = true := hw _ (List.mem_of_getElem? (i := 11) rfl)
theorem w12 {Z : State} {a0 : Array Value} (hw : ∀ d ∈ tables_1, d.before a0 Z = true) : (Jvm.Cond.instanceMethod ({ cls := "java/lang/String", name := "<init>", desc := "([C)V" } : Jvm.MethodName)).before a0 Z = true := hw _ (List.mem_of_getElem? (i := 12) rfl)
theorem w13 {Z : State} {a0 : Array Value} (hw : ∀ d ∈ tables_1, d.before a0 Z = true) : (Jvm.Cond.code ({ cls := "java/lang/String", name := "<init>", desc := "([C)V" } : Jvm.MethodName) jdk_42_method_3_code (2 : Nat) (Option.none : Option Jvm.ClassFile.FieldType)).before a0 Z = true := hw _ (List.mem_of_getElem? (i := 13) rfl)
theorem w14 {Z : State} {a0 : Array Value} (hw : ∀ d ∈ tables_1, d.before a0 Z = true) : (Jvm.Cond.methodLink "java/lang/String" (27 : Nat) ({ cls := "java/lang/String", name := "<init>", desc := "([CIILjava/lang/Void;)V" } : Jvm.MethodName)).before a0 Z = true := hw _ (List.mem_of_getElem? (i := 14) rfl)
theorem w15 {Z : State} {a0 : Array Value} (hw : ∀ d ∈ tables_1, d.before a0 Z = true) : (Jvm.Cond.instanceMethod ({ cls := "java/lang/String", name := "<init>", desc := "([CIILjava/lang/Void;)V" } : Jvm.MethodName)).before a0 Z = true := hw _ (List.mem_of_getElem? (i := 15) rfl)
theorem w17 {Z : State} {a0 : Array Value} (hw : ∀ d ∈ tables_1, d.before a0 Z = true) : (Jvm.Cond.code ({ cls := "java/lang/String", name := "<init>", desc := "([CIILjava/lang/Void;)V" } : Jvm.MethodName) jdk_42_method_149_code (6 : Nat) (Option.none : Option Jvm.ClassFile.FieldType)).before a0 Z = true := hw _ (List.mem_of_getElem? (i := 17) rfl)
theorem w18 {Z : State} {a0 : Array Value} (hw : ∀ d ∈ tables_1, d.before a0 Z = true) : (Jvm.Cond.methodLink "java/lang/String" (1 : Nat) ({ cls := "java/lang/Object", name := "<init>", desc := "()V" } : Jvm.MethodName)).before a0 Z = true := hw _ (List.mem_of_getElem? (i := 18) rfl)
theorem w19 {Z : State} {a0 : Array Value} (hw : ∀ d ∈ tables_1, d.before a0 Z = true) : (Jvm.Cond.instanceMethod ({ cls := "java/lang/Object", name := "<init>", desc := "()V" } : Jvm.MethodName)).before a0 Z = true := hw _ (List.mem_of_getElem? (i := 19) rfl)
theorem w20 {Z : State} {a0 : Array Value} (hw : ∀ d ∈ tables_1, d.before a0 Z = true) : (Jvm.Cond.code ({ cls := "java/lang/Object", name := "<init>", desc := "()V" } : Jvm.MethodName) object_method_1_code (1 : Nat) (Option.none : Option Jvm.ClassFile.FieldType)).before a0 Z = true := hw _ (List.mem_of_getElem? (i := 20) rfl)
theorem w21 {Z : State} {a0 : Array Value} (hw : ∀ d ∈ tables_1, d.before a0 Z = true) : (Jvm.Cond.stringLink "java/lang/String" (7 : Nat) "").before a0 Z = true := hw _ (List.mem_of_getElem? (i := 21) rfl)
theorem w22 {Z : State} {a0 : Array Value} (hw : ∀ d ∈ tables_1, d.before a0 Z = true) : (Jvm.Cond.arrayClass Jvm.ClassFile.FieldType.byte).before a0 Z = true := hw _ (List.mem_of_getElem? (i := 22) rfl)
theorem w23 {Z : State} {a0 : Array Value} (hw : ∀ d ∈ tables_1, d.before a0 Z = true) : (Jvm.Cond.laysFinal "java/lang/String" "java/lang/String" "value" "[B").before a0 Z = true := hw _ (List.mem_of_getElem? (i := 23) rfl)
theorem w24 {Z : State} {a0 : Array Value} (hw : ∀ d ∈ tables_1, d.before a0 Z = true) : (Jvm.Cond.laysFinal "java/lang/String" "java/lang/String" "coder" "B").before a0 Z = true := hw _ (List.mem_of_getElem? (i := 24) rfl)
theorem w25 {Z : State} {a0 : Array Value} (hw : ∀ d ∈ tables_1, d.before a0 Z = true) : (Jvm.Cond.soleField "java/lang/String" "value").before a0 Z = true := hw _ (List.mem_of_getElem? (i := 25) rfl)
theorem w26 {Z : State} {a0 : Array Value} (hw : ∀ d ∈ tables_1, d.before a0 Z = true) : (Jvm.Cond.soleField "java/lang/String" "coder").before a0 Z = true := hw _ (List.mem_of_getElem? (i := 26) rfl)
theorem w27 {Z : State} {a0 : Array Value} (hw : ∀ d ∈ tables_1, d.before a0 Z = true) : (Jvm.Cond.fieldLink "java/lang/String" (9 : Nat) "java/lang/String" "value" "[B").before a0 Z = true := hw _ (List.mem_of_getElem? (i := 27) rfl)
theorem w28 {Z : State} {a0 : Array Value} (hw : ∀ d ∈ tables_1, d.before a0 Z = true) : (Jvm.Cond.fieldLink "java/lang/String" (15 : Nat) "java/lang/String" "coder" "B").before a0 Z = true := hw _ (List.mem_of_getElem? (i := 28) rfl)
theorem w29 {Z : State} {a0 : Array Value} (hw : ∀ d ∈ tables_1, d.before a0 Z = true) : (Jvm.Cond.methodLink "com/example/vestline/vestline/input/SurrogatesFindUnpairedPinLaw" (17 : Nat) ({ cls := "com/example/vestline/vestline/input/SurrogatesFindUnpairedPinLaw", name := "unpairedAt", desc := "([CII)Z" } : Jvm.MethodName)).before a0 Z = true := hw _ (List.mem_of_getElem? (i := 29) rfl)
theorem w30 {Z : State} {a0 : Array Value} (hw : ∀ d ∈ tables_1, d.before a0 Z = true) : (Jvm.Cond.static ({ cls := "com/example/vestline/vestline/input/SurrogatesFindUnpairedPinLaw", name := "unpairedAt", desc := "([CII)Z" } : Jvm.MethodName)).before a0 Z = true := hw _ (List.mem_of_getElem? (i := 30) rfl)
theorem w31 {Z : State} {a0 : Array Value} (hw : ∀ d ∈ tables_1, d.before a0 Z = true) : (Jvm.Cond.code ({ cls := "com/example/vestline/vestline/input/SurrogatesFindUnpairedPinLaw", name := "unpairedAt", desc := "([CII)Z" } : Jvm.MethodName) method_7_code (4 : Nat) (Option.some Jvm.ClassFile.FieldType.boolean)).before a0 Z = true := hw _ (List.mem_of_getElem? (i := 31) rfl)
theorem w32 {Z : State} {a0 : Array Value} (hw : ∀ d ∈ tables_1, d.before a0 Z = true) : (Jvm.Cond.methodLink "com/example/vestline/vestline/input/SurrogatesFindUnpairedPinLaw" (21 : Nat) ({ cls := "com/example/vestline/vestline/input/Surrogates", name := "findUnpaired", desc := "(Ljava/lang/String;)I" } : Jvm.MethodName)).before a0 Z = true := hw _ (List.mem_of_getElem? (i := 32) rfl)
theorem w33 {Z : State} {a0 : Array Value} (hw : ∀ d ∈ tables_1, d.before a0 Z = true) : (Jvm.Cond.static ({ cls := "com/example/vestline/vestline/input/Surrogates", name := "findUnpaired", desc := "(Ljava/lang/String;)I" } : Jvm.MethodName)).before a0 Z = true := hw _ (List.mem_of_getElem? (i := 33) rfl)
theorem w34 {Z : State} {a0 : Array Value} (hw : ∀ d ∈ tables_1, d.before a0 Z = true) : (Jvm.Cond.initialized "com/example/vestline/vestline/input/Surrogates").before a0 Z = true := hw _ (List.mem_of_getElem? (i := 34) rfl)
theorem w35 {Z : State} {a0 : Array Value} (hw : ∀ d ∈ tables_1, d.before a0 Z = true) : (Jvm.Cond.code ({ cls := "com/example/vestline/vestline/input/Surrogates", name := "findUnpaired", desc := "(Ljava/lang/String;)I" } : Jvm.MethodName) prog_29_method_2_code (3 : Nat) (Option.some Jvm.ClassFile.FieldType.int)).before a0 Z = true := hw _ (List.mem_of_getElem? (i := 35) rfl)
theorem w36 {Z : State} {a0 : Array Value} (hw : ∀ d ∈ tables_1, d.before a0 Z = true) : (Jvm.Cond.methodLink "com/example/vestline/vestline/input/Surrogates" (7 : Nat) ({ cls := "java/lang/String", name := "length", desc := "()I" } : Jvm.MethodName)).before a0 Z = true := hw _ (List.mem_of_getElem? (i := 36) rfl)
theorem w37 {Z : State} {a0 : Array Value} (hw : ∀ d ∈ tables_1, d.before a0 Z = true) : (Jvm.Cond.declares ({ cls := "java/lang/String", name := "length", desc := "()I" } : Jvm.MethodName)).before a0 Z = true := hw _ (List.mem_of_getElem? (i := 37) rfl)
theorem w38 {Z : State} {a0 : Array Value} (hw : ∀ d ∈ tables_1, d.before a0 Z = true) : (Jvm.Cond.instanceMethod ({ cls := "java/lang/String", name := "length", desc := "()I" } : Jvm.MethodName)).before a0 Z = true := hw _ (List.mem_of_getElem? (i := 38) rfl)
theorem w39 {Z : State} {a0 : Array Value} (hw : ∀ d ∈ tables_1, d.before a0 Z = true) : (Jvm.Cond.selects "java/lang/String" ({ cls := "java/lang/String", name := "length", desc := "()I" } : Jvm.MethodName) ({ cls := "java/lang/String", name := "length", desc := "()I" } : Jvm.MethodName)).before a0 Z = true := hw _ (List.mem_of_getElem? (i := 39) rfl)
theorem w40 {Z : State} {a0 : Array Value} (hw : ∀ d ∈ tables_1, d.before a0 Z = true) : (Jvm.Cond.code ({ cls := "java/lang/String", name := "length", desc := "()I" } : Jvm.MethodName) jdk_42_method_54_code (1 : Nat) (Option.some Jvm.ClassFile.FieldType.int)).before a0 Z = true := hw _ (List.mem_of_getElem? (i := 40) rfl)
theorem w41 {Z : State} {a0 : Array Value} (hw : ∀ d ∈ tables_1, d.before a0 Z = true) : (Jvm.Cond.methodLink "java/lang/String" (335 : Nat) ({ cls := "java/lang/String", name := "coder", desc := "()B" } : Jvm.MethodName)).before a0 Z = true := hw _ (List.mem_of_getElem? (i := 41) rfl)
theorem w42 {Z : State} {a0 : Array Value} (hw : ∀ d ∈ tables_1, d.before a0 Z = true) : (Jvm.Cond.declares ({ cls := "java/lang/String", name := "coder", desc := "()B" } : Jvm.MethodName)).before a0 Z = true := hw _ (List.mem_of_getElem? (i := 42) rfl)
theorem w43 {Z : State} {a0 : Array Value} (hw : ∀ d ∈ tables_1, d.before a0 Z = true) : (Jvm.Cond.instanceMethod ({ cls := "java/lang/String", name := "coder", desc := "()B" } : Jvm.MethodName)).before a0 Z = true := hw _ (List.mem_of_getElem? (i := 43) rfl)
theorem w44 {Z : State} {a0 : Array Value} (hw : ∀ d ∈ tables_1, d.before a0 Z = true) : (Jvm.Cond.selects "java/lang/String" ({ cls := "java/lang/String", name := "coder", desc := "()B" } : Jvm.MethodName) ({ cls := "java/lang/String", name := "coder", desc := "()B" } : Jvm.MethodName)).before a0 Z = true := hw _ (List.mem_of_getElem? (i := 44) rfl)
theorem w45 {Z : State} {a0 : Array Value} (hw : ∀ d ∈ tables_1, d.before a0 Z = true) : (Jvm.Cond.code ({ cls := "java/lang/String", name := "coder", desc := "()B" } : Jvm.MethodName) jdk_42_method_152_code (1 : Nat) (Option.some Jvm.ClassFile.FieldType.byte)).before a0 Z = true := hw _ (List.mem_of_getElem? (i := 45) rfl)
theorem w46 {Z : State} {a0 : Array Value} (hw : ∀ d ∈ tables_1, d.before a0 Z = true) : (Jvm.Cond.fieldLink "java/lang/String" (38 : Nat) "java/lang/String" "COMPACT_STRINGS" "Z").before a0 Z = true := hw _ (List.mem_of_getElem? (i := 46) rfl)
theorem w47 {Z : State} {a0 : Array Value} (hw : ∀ d ∈ tables_1, d.before a0 Z = true) : (Jvm.Cond.methodLink "java/lang/String" (177 : Nat) ({ cls := "java/lang/StringUTF16", name := "compress", desc := "([CII)[B" } : Jvm.MethodName)).before a0 Z = true := hw _ (List.mem_of_getElem? (i := 47) rfl)
theorem w48 {Z : State} {a0 : Array Value} (hw : ∀ d ∈ tables_1, d.before a0 Z = true) : (Jvm.Cond.static ({ cls := "java/lang/StringUTF16", name := "compress", desc := "([CII)[B" } : Jvm.MethodName)).before a0 Z = true := hw _ (List.mem_of_getElem? (i := 48) rfl)
theorem w49 {Z : State} {a0 : Array Value} (hw : ∀ d ∈ tables_1, d.before a0 Z = true) : (Jvm.Cond.initialized "java/lang/StringUTF16").before a0 Z = true := hw _ (List.mem_of_getElem? (i := 49) rfl)
theorem w50 {Z : State} {a0 : Array Value} (hw : ∀ d ∈ tables_1, d.before a0 Z = true) : (Jvm.Cond.code ({ cls := "java/lang/StringUTF16", name := "compress", desc := "([CII)[B" } : Jvm.MethodName) jdk_52_method_16_code (6 : Nat) (Option.some (Jvm.ClassFile.FieldType.array Jvm.ClassFile.FieldType.byte))).before a0 Z = true := hw _ (List.mem_of_getElem? (i := 50) rfl)
theorem w51 {Z : State} {a0 : Array Value} (hw : ∀ d ∈ tables_1, d.before a0 Z = true) : (Jvm.Cond.methodLink "java/lang/StringUTF16" (115 : Nat) ({ cls := "java/lang/StringUTF16", name := "compress", desc := "([CI[BII)I" } : Jvm.MethodName)).before a0 Z = true := hw _ (List.mem_of_getElem? (i := 51) rfl)
theorem w52 {Z : State} {a0 : Array Value} (hw : ∀ d ∈ tables_1, d.before a0 Z = true) : (Jvm.Cond.static ({ cls := "java/lang/StringUTF16", name := "compress", desc := "([CI[BII)I" } : Jvm.MethodName)).before a0 Z = true := hw _ (List.mem_of_getElem? (i := 52) rfl)
theorem w53 {Z : State} {a0 : Array Value} (hw : ∀ d ∈ tables_1, d.before a0 Z = true) : (Jvm.Cond.code ({ cls := "java/lang/StringUTF16", name := "compress", desc := "([CI[BII)I" } : Jvm.MethodName) jdk_52_method_21_code (7 : Nat) (Option.some Jvm.ClassFile.FieldType.int)).before a0 Z = true := hw _ (List.mem_of_getElem? (i := 53) rfl)
theorem w54 {Z : State} {a0 : Array Value} (hw : ∀ d ∈ tables_1, d.before a0 Z = true) : (Jvm.Cond.methodLink "java/lang/String" (47 : Nat) ({ cls := "java/lang/StringUTF16", name := "coderFromArrayLen", desc := "([BI)B" } : Jvm.MethodName)).before a0 Z = true := hw _ (List.mem_of_getElem? (i := 54) rfl)
theorem w55 {Z : State} {a0 : Array Value} (hw : ∀ d ∈ tables_1, d.before a0 Z = true) : (Jvm.Cond.static ({ cls := "java/lang/StringUTF16", name := "coderFromArrayLen", desc := "([BI)B" } : Jvm.MethodName)).before a0 Z = true := hw _ (List.mem_of_getElem? (i := 55) rfl)
theorem w56 {Z : State} {a0 : Array Value} (hw : ∀ d ∈ tables_1, d.before a0 Z = true) : (Jvm.Cond.code ({ cls := "java/lang/StringUTF16", name := "coderFromArrayLen", desc := "([BI)B" } : Jvm.MethodName) jdk_52_method_15_code (2 : Nat) (Option.some Jvm.ClassFile.FieldType.byte)).before a0 Z = true := hw _ (List.mem_of_getElem? (i := 56) rfl)
theorem w57 {Z : State} {a0 : Array Value} (hw : ∀ d ∈ tables_1, d.before a0 Z = true) : (Jvm.Cond.methodLink "com/example/vestline/vestline/input/SurrogatesFindUnpairedPinLaw" (36 : Nat) ({ cls := "com/example/vestline/vestline/input/SurrogatesFindUnpairedPinLaw", name := "isHigh", desc := "(C)Z" } : Jvm.MethodName)).before a0 Z = true := hw _ (List.mem_of_getElem? (i := 57) rfl)
theorem w58 {Z : State} {a0 : Array Value} (hw : ∀ d ∈ tables_1, d.before a0 Z = true) : (Jvm.Cond.static ({ cls := "com/example/vestline/vestline/input/SurrogatesFindUnpairedPinLaw", name := "isHigh", desc := "(C)Z" } : Jvm.MethodName)).before a0 Z = true := hw _ (List.mem_of_getElem? (i := 58) rfl)
theorem w59 {Z : State} {a0 : Array Value} (hw : ∀ d ∈ tables_1, d.before a0 Z = true) : (Jvm.Cond.code ({ cls := "com/example/vestline/vestline/input/SurrogatesFindUnpairedPinLaw", name := "isHigh", desc := "(C)Z" } : Jvm.MethodName) method_5_code (1 : Nat) (Option.some Jvm.ClassFile.FieldType.boolean)).before a0 Z = true := hw _ (List.mem_of_getElem? (i := 59) rfl)
theorem w60 {Z : State} {a0 : Array Value} (hw : ∀ d ∈ tables_1, d.before a0 Z = true) : (Jvm.Cond.constant "com/example/vestline/vestline/input/SurrogatesFindUnpairedPinLaw" (27 : Nat) (55296 : Int32)).before a0 Z = true := hw _ (List.mem_of_getElem? (i := 60) rfl)
theorem w61 {Z : State} {a0 : Array Value} (hw : ∀ d ∈ tables_1, d.before a0 Z = true) : (Jvm.Cond.methodLink "com/example/vestline/vestline/input/SurrogatesFindUnpairedPinLaw" (40 : Nat) ({ cls := "com/example/vestline/vestline/input/SurrogatesFindUnpairedPinLaw", name := "isLow", desc := "(C)Z" } : Jvm.MethodName)).before a0 Z = true := hw _ (List.mem_of_getElem? (i := 61) rfl)
theorem w62 {Z : State} {a0 : Array Value} (hw : ∀ d ∈ tables_1, d.before a0 Z = true) : (Jvm.Cond.static ({ cls := "com/example/vestline/vestline/input/SurrogatesFindUnpairedPinLaw", name := "isLow", desc := "(C)Z" } : Jvm.MethodName)).before a0 Z = true := hw _ (List.mem_of_getElem? (i := 62) rfl)
theorem w63 {Z : State} {a0 : Array Value} (hw : ∀ d ∈ tables_1, d.before a0 Z = true) : (Jvm.Cond.code ({ cls := "com/example/vestline/vestline/input/SurrogatesFindUnpairedPinLaw", name := "isLow", desc := "(C)Z" } : Jvm.MethodName) method_6_code (1 : Nat) (Option.some Jvm.ClassFile.FieldType.boolean)).before a0 Z = true := hw _ (List.mem_of_getElem? (i := 63) rfl)
theorem w64 {Z : State} {a0 : Array Value} (hw : ∀ d ∈ tables_1, d.before a0 Z = true) : (Jvm.Cond.constant "com/example/vestline/vestline/input/SurrogatesFindUnpairedPinLaw" (28 : Nat) (56320 : Int32)).before a0 Z = true := hw _ (List.mem_of_getElem? (i := 64) rfl)
theorem w65 {Z : State} {a0 : Array Value} (hw : ∀ d ∈ tables_1, d.before a0 Z = true) : (Jvm.Cond.methodLink "com/example/vestline/vestline/input/Surrogates" (13 : Nat) ({ cls := "java/lang/String", name := "charAt", desc := "(I)C" } : Jvm.MethodName)).before a0 Z = true := hw _ (List.mem_of_getElem? (i := 65) rfl)
theorem w66 {Z : State} {a0 : Array Value} (hw : ∀ d ∈ tables_1, d.before a0 Z = true) : (Jvm.Cond.declares ({ cls := "java/lang/String", name := "charAt", desc := "(I)C" } : Jvm.MethodName)).before a0 Z = true := hw _ (List.mem_of_getElem? (i := 66) rfl)
theorem w67 {Z : State} {a0 : Array Value} (hw : ∀ d ∈ tables_1, d.before a0 Z = true) : (Jvm.Cond.instanceMethod ({ cls := "java/lang/String", name := "charAt", desc := "(I)C" } : Jvm.MethodName)).before a0 Z = true := hw _ (List.mem_of_getElem? (i := 67) rfl)
theorem w68 {Z : State} {a0 : Array Value} (hw : ∀ d ∈ tables_1, d.before a0 Z = true) : (Jvm.Cond.selects "java/lang/String" ({ cls := "java/lang/String", name := "charAt", desc := "(I)C" } : Jvm.MethodName) ({ cls := "java/lang/String", name := "charAt", desc := "(I)C" } : Jvm.MethodName)).before a0 Z = true := hw _ (List.mem_of_getElem? (i := 68) rfl)
theorem w69 {Z : State} {a0 : Array Value} (hw : ∀ d ∈ tables_1, d.before a0 Z = true) : (Jvm.Cond.code ({ cls := "java/lang/String", name := "charAt", desc := "(I)C" } : Jvm.MethodName) jdk_42_method_56_code (2 : Nat) (Option.some Jvm.ClassFile.FieldType.char)).before a0 Z = true := hw _ (List.mem_of_getElem? (i := 69) rfl)
theorem w70 {Z : State} {a0 : Array Value} (hw : ∀ d ∈ tables_1, d.before a0 Z = true) : (Jvm.Cond.methodLink "java/lang/String" (492 : Nat) ({ cls := "java/lang/String", name := "isLatin1", desc := "()Z" } : Jvm.MethodName)).before a0 Z = true := hw _ (List.mem_of_getElem? (i := 70) rfl)
theorem w71 {Z : State} {a0 : Array Value} (hw : ∀ d ∈ tables_1, d.before a0 Z = true) : (Jvm.Cond.declares ({ cls := "java/lang/String", name := "isLatin1", desc := "()Z" } : Jvm.MethodName)).before a0 Z = true := hw _ (List.mem_of_getElem? (i := 71) rfl)
theorem w72 {Z : State} {a0 : Array Value} (hw : ∀ d ∈ tables_1, d.before a0 Z = true) : (Jvm.Cond.instanceMethod ({ cls := "java/lang/String", name := "isLatin1", desc := "()Z" } : Jvm.MethodName)).before a0 Z = true := hw _ (List.mem_of_getElem? (i := 72) rfl)
theorem w73 {Z : State} {a0 : Array Value} (hw : ∀ d ∈ tables_1, d.before a0 Z = true) : (Jvm.Cond.selects "java/lang/String" ({ cls := "java/lang/String", name := "isLatin1", desc := "()Z" } : Jvm.MethodName) ({ cls := "java/lang/String", name := "isLatin1", desc := "()Z" } : Jvm.MethodName)).before a0 Z = true := hw _ (List.mem_of_getElem? (i := 73) rfl)
theorem w74 {Z : State} {a0 : Array Value} (hw : ∀ d ∈ tables_1, d.before a0 Z = true) : (Jvm.Cond.code ({ cls := "java/lang/String", name := "isLatin1", desc := "()Z" } : Jvm.MethodName) jdk_42_method_154_code (1 : Nat) (Option.some Jvm.ClassFile.FieldType.boolean)).before a0 Z = true := hw _ (List.mem_of_getElem? (i := 74) rfl)
theorem w75 {Z : State} {a0 : Array Value} (hw : ∀ d ∈ tables_1, d.before a0 Z = true) : (Jvm.Cond.methodLink "java/lang/String" (495 : Nat) ({ cls := "java/lang/StringLatin1", name := "charAt", desc := "([BI)C" } : Jvm.MethodName)).before a0 Z = true := hw _ (List.mem_of_getElem? (i := 75) rfl)
theorem w76 {Z : State} {a0 : Array Value} (hw : ∀ d ∈ tables_1, d.before a0 Z = true) : (Jvm.Cond.static ({ cls := "java/lang/StringLatin1", name := "charAt", desc := "([BI)C" } : Jvm.MethodName)).before a0 Z = true := hw _ (List.mem_of_getElem? (i := 76) rfl)
theorem w77 {Z : State} {a0 : Array Value} (hw : ∀ d ∈ tables_1, d.before a0 Z = true) : (Jvm.Cond.initialized "java/lang/StringLatin1").before a0 Z = true := hw _ (List.mem_of_getElem? (i := 77) rfl)
theorem w78 {Z : State} {a0 : Array Value} (hw : ∀ d ∈ tables_1, d.before a0 Z = true) : (Jvm.Cond.code ({ cls := "java/lang/StringLatin1", name := "charAt", desc := "([BI)C" } : Jvm.MethodName) jdk_43_method_2_code (2 : Nat) (Option.some Jvm.ClassFile.FieldType.char)).before a0 Z = true := hw _ (List.mem_of_getElem? (i := 78) rfl)
theorem w79 {Z : State} {a0 : Array Value} (hw : ∀ d ∈ tables_1, d.before a0 Z = true) : (Jvm.Cond.methodLink "java/lang/StringLatin1" (9 : Nat) ({ cls := "java/lang/String", name := "checkIndex", desc := "(II)V" } : Jvm.MethodName)).before a0 Z = true := hw _ (List.mem_of_getElem? (i := 79) rfl)
theorem w80 {Z : State} {a0 : Array Value} (hw : ∀ d ∈ tables_1, d.before a0 Z = true) : (Jvm.Cond.static ({ cls := "java/lang/String", name := "checkIndex", desc := "(II)V" } : Jvm.MethodName)).before a0 Z = true := hw _ (List.mem_of_getElem? (i := 80) rfl)
theorem w81 {Z : State} {a0 : Array Value} (hw : ∀ d ∈ tables_1, d.before a0 Z = true) : (Jvm.Cond.code ({ cls := "java/lang/String", name := "checkIndex", desc := "(II)V" } : Jvm.MethodName) jdk_42_method_155_code (2 : Nat) (Option.none : Option Jvm.ClassFile.FieldType)).before a0 Z = true := hw _ (List.mem_of_getElem? (i := 81) rfl)
theorem w82 {Z : State} {a0 : Array Value} (hw : ∀ d ∈ tables_1, d.before a0 Z = true) : (Jvm.Cond.fieldLink "java/lang/String" (1053 : Nat) "jdk/internal/util/Preconditions" "SIOOBE_FORMATTER" "Ljava/util/function/BiFunction;").before a0 Z = true := hw _ (List.mem_of_getElem? (i := 82) rfl)
theorem w83 {Z : State} {a0 : Array Value} (hw : ∀ d ∈ tables_1, d.before a0 Z = true) : (Jvm.Cond.initialized "jdk/internal/util/Preconditions").before a0 Z = true := hw _ (List.mem_of_getElem? (i := 83) rfl)
theorem w84 {Z : State} {a0 : Array Value} (hw : ∀ d ∈ tables_1, d.before a0 Z = true) : (Jvm.Cond.methodLink "java/lang/String" (1059 : Nat) ({ cls := "jdk/internal/util/Preconditions", name := "checkIndex", desc := "(IILjava/util/function/BiFunction;)I" } : Jvm.MethodName)).before a0 Z = true := hw _ (List.mem_of_getElem? (i := 84) rfl)
theorem w85 {Z : State} {a0 : Array Value} (hw : ∀ d ∈ tables_1, d.before a0 Z = true) : (Jvm.Cond.static ({ cls := "jdk/internal/util/Preconditions", name := "checkIndex", desc := "(IILjava/util/function/BiFunction;)I" } : Jvm.MethodName)).before a0 Z = true := hw _ (List.mem_of_getElem? (i := 85) rfl)
theorem w86 {Z : State} {a0 : Array Value} (hw : ∀ d ∈ tables_1, d.before a0 Z = true) : (Jvm.Cond.code ({ cls := "jdk/internal/util/Preconditions", name := "checkIndex", desc := "(IILjava/util/function/BiFunction;)I" } : Jvm.MethodName) jdk_41_method_11_code (3 : Nat) (Option.some Jvm.ClassFile.FieldType.int)).before a0 Z = true := hw _ (List.mem_of_getElem? (i := 86) rfl)
theorem w87 {Z : State} {a0 : Array Value} (hw : ∀ d ∈ tables_1, d.before a0 Z = true) : (Jvm.Cond.methodLink "com/example/vestline/vestline/input/Surrogates" (17 : Nat) ({ cls := "java/lang/Character", name := "isHighSurrogate", desc := "(C)Z" } : Jvm.MethodName)).before a0 Z = true := hw _ (List.mem_of_getElem? (i := 87) rfl)
theorem w88 {Z : State} {a0 : Array Value} (hw : ∀ d ∈ tables_1, d.before a0 Z = true) : (Jvm.Cond.static ({ cls := "java/lang/Character", name := "isHighSurrogate", desc := "(C)Z" } : Jvm.MethodName)).before a0 Z = true := hw _ (List.mem_of_getElem? (i := 88) rfl)
theorem w89 {Z : State} {a0 : Array Value} (hw : ∀ d ∈ tables_1, d.before a0 Z = true) : (Jvm.Cond.initialized "java/lang/Character").before a0 Z = true := hw _ (List.mem_of_getElem? (i := 89) rfl)
theorem w90 {Z : State} {a0 : Array Value} (hw : ∀ d ∈ tables_1, d.before a0 Z = true) : (Jvm.Cond.code ({ cls := "java/lang/Character", name := "isHighSurrogate", desc := "(C)Z" } : Jvm.MethodName) jdk_89_method_14_code (1 : Nat) (Option.some Jvm.ClassFile.FieldType.boolean)).before a0 Z = true := hw _ (List.mem_of_getElem? (i := 90) rfl)
theorem w91 {Z : State} {a0 : Array Value} (hw : ∀ d ∈ tables_1, d.before a0 Z = true) : (Jvm.Cond.constant "java/lang/Character" (75 : Nat) (55296 : Int32)).before a0 Z = true := hw _ (List.mem_of_getElem? (i := 91) rfl)
theorem w92 {Z : State} {a0 : Array Value} (hw : ∀ d ∈ tables_1, d.before a0 Z = true) : (Jvm.Cond.methodLink "com/example/vestline/vestline/input/Surrogates" (26 : Nat) ({ cls := "java/lang/Character", name := "isSurrogate", desc := "(C)Z" } : Jvm.MethodName)).before a0 Z = true := hw _ (List.mem_of_getElem? (i := 92) rfl)
theorem w93 {Z : State} {a0 : Array Value} (hw : ∀ d ∈ tables_1, d.before a0 Z = true) : (Jvm.Cond.static ({ cls := "java/lang/Character", name := "isSurrogate", desc := "(C)Z" } : Jvm.MethodName)).before a0 Z = true := hw _ (List.mem_of_getElem? (i := 93) rfl)
theorem w94 {Z : State} {a0 : Array Value} (hw : ∀ d ∈ tables_1, d.before a0 Z = true) : (Jvm.Cond.code ({ cls := "java/lang/Character", name := "isSurrogate", desc := "(C)Z" } : Jvm.MethodName) jdk_89_method_16_code (1 : Nat) (Option.some Jvm.ClassFile.FieldType.boolean)).before a0 Z = true := hw _ (List.mem_of_getElem? (i := 94) rfl)
theorem w95 {Z : State} {a0 : Array Value} (hw : ∀ d ∈ tables_1, d.before a0 Z = true) : (Jvm.Cond.methodLink "java/lang/StringUTF16" (119 : Nat) ({ cls := "java/lang/StringUTF16", name := "toBytes", desc := "([CII)[B" } : Jvm.MethodName)).before a0 Z = true := hw _ (List.mem_of_getElem? (i := 95) rfl)
theorem w96 {Z : State} {a0 : Array Value} (hw : ∀ d ∈ tables_1, d.before a0 Z = true) : (Jvm.Cond.static ({ cls := "java/lang/StringUTF16", name := "toBytes", desc := "([CII)[B" } : Jvm.MethodName)).before a0 Z = true := hw _ (List.mem_of_getElem? (i := 96) rfl)
theorem w97 {Z : State} {a0 : Array Value} (hw : ∀ d ∈ tables_1, d.before a0 Z = true) : (Jvm.Cond.code ({ cls := "java/lang/StringUTF16", name := "toBytes", desc := "([CII)[B" } : Jvm.MethodName) jdk_52_method_14_code (5 : Nat) (Option.some (Jvm.ClassFile.FieldType.array Jvm.ClassFile.FieldType.byte))).before a0 Z = true := hw _ (List.mem_of_getElem? (i := 97) rfl)
theorem w98 {Z : State} {a0 : Array Value} (hw : ∀ d ∈ tables_1, d.before a0 Z = true) : (Jvm.Cond.methodLink "java/lang/StringUTF16" (107 : Nat) ({ cls := "java/lang/StringUTF16", name := "newBytesFor", desc := "(I)[B" } : Jvm.MethodName)).before a0 Z = true := hw _ (List.mem_of_getElem? (i := 98) rfl)
theorem w99 {Z : State} {a0 : Array Value} (hw : ∀ d ∈ tables_1, d.before a0 Z = true) : (Jvm.Cond.static ({ cls := "java/lang/StringUTF16", name := "newBytesFor", desc := "(I)[B" } : Jvm.MethodName)).before a0 Z = true := hw _ (List.mem_of_getElem? (i := 99) rfl)
theorem w100 {Z : State} {a0 : Array Value} (hw : ∀ d ∈ tables_1, d.before a0 Z = true) : (Jvm.Cond.code ({ cls := "java/lang/StringUTF16", name := "newBytesFor", desc := "(I)[B" } : Jvm.MethodName) jdk_52_method_2_code (1 : Nat) (Option.some (Jvm.ClassFile.FieldType.array Jvm.ClassFile.FieldType.byte))).before a0 Z = true := hw _ (List.mem_of_getElem? (i := 100) rfl)
theorem w101 {Z : State} {a0 : Array Value} (hw : ∀ d ∈ tables_1, d.before a0 Z = true) : (Jvm.Cond.methodLink "java/lang/StringUTF16" (11 : Nat) ({ cls := "java/lang/StringUTF16", name := "newBytesLength", desc := "(I)I" } : Jvm.MethodName)).before a0 Z = true := hw _ (List.mem_of_getElem? (i := 101) rfl)
theorem w102 {Z : State} {a0 : Array Value} (hw : ∀ d ∈ tables_1, d.before a0 Z = true) : (Jvm.Cond.static ({ cls := "java/lang/StringUTF16", name := "newBytesLength", desc := "(I)I" } : Jvm.MethodName)).before a0 Z = true := hw _ (List.mem_of_getElem? (i := 102) rfl)
theorem w103 {Z : State} {a0 : Array Value} (hw : ∀ d ∈ tables_1, d.before a0 Z = true) : (Jvm.Cond.code ({ cls := "java/lang/StringUTF16", name := "newBytesLength", desc := "(I)I" } : Jvm.MethodName) jdk_52_method_3_code (1 : Nat) (Option.some Jvm.ClassFile.FieldType.int)).before a0 Z = true := hw _ (List.mem_of_getElem? (i := 103) rfl)
theorem w104 {Z : State} {a0 : Array Value} (hw : ∀ d ∈ tables_1, d.before a0 Z = true) : (Jvm.Cond.constant "java/lang/StringUTF16" (20 : Nat) (1073741823 : Int32)).before a0 Z = true := hw _ (List.mem_of_getElem? (i := 104) rfl)
theorem w105 {Z : State} {a0 : Array Value} (hw : ∀ d ∈ tables_1, d.before a0 Z = true) : (Jvm.Cond.methodLink "java/lang/StringUTF16" (111 : Nat) ({ cls := "java/lang/StringUTF16", name := "putChar", desc := "([BII)V" } : Jvm.MethodName)).before a0 Z = true := hw _ (List.mem_of_getElem? (i := 105) rfl)
theorem w106 {Z : State} {a0 : Array Value} (hw : ∀ d ∈ tables_1, d.before a0 Z = true) : (Jvm.Cond.static ({ cls := "java/lang/StringUTF16", name := "putChar", desc := "([BII)V" } : Jvm.MethodName)).before a0 Z = true := hw _ (List.mem_of_getElem? (i := 106) rfl)
theorem w107 {Z : State} {a0 : Array Value} (hw : ∀ d ∈ tables_1, d.before a0 Z = true) : (Jvm.Cond.code ({ cls := "java/lang/StringUTF16", name := "putChar", desc := "([BII)V" } : Jvm.MethodName) jdk_52_method_4_code (3 : Nat) (Option.none : Option Jvm.ClassFile.FieldType)).before a0 Z = true := hw _ (List.mem_of_getElem? (i := 107) rfl)
theorem w108 {Z : State} {a0 : Array Value} (hw : ∀ d ∈ tables_1, d.before a0 Z = true) : (Jvm.Cond.fieldLink "java/lang/StringUTF16" (44 : Nat) "java/lang/StringUTF16" "$assertionsDisabled" "Z").before a0 Z = true := hw _ (List.mem_of_getElem? (i := 108) rfl)
theorem w109 {Z : State} {a0 : Array Value} (hw : ∀ d ∈ tables_1, d.before a0 Z = true) : (Jvm.Cond.fieldLink "java/lang/StringUTF16" (59 : Nat) "java/lang/StringUTF16" "HI_BYTE_SHIFT" "I").before a0 Z = true := hw _ (List.mem_of_getElem? (i := 109) rfl)
theorem w110 {Z : State} {a0 : Array Value} (hw : ∀ d ∈ tables_1, d.before a0 Z = true) : (Jvm.Cond.fieldLink "java/lang/StringUTF16" (63 : Nat) "java/lang/StringUTF16" "LO_BYTE_SHIFT" "I").before a0 Z = true := hw _ (List.mem_of_getElem? (i := 110) rfl)
theorem w111 {Z : State} {a0 : Array Value} (hw : ∀ d ∈ tables_1, d.before a0 Z = true) : (Jvm.Cond.methodLink "java/lang/StringUTF16" (71 : Nat) ({ cls := "java/lang/StringUTF16", name := "getChar", desc := "([BI)C" } : Jvm.MethodName)).before a0 Z = true := hw _ (List.mem_of_getElem? (i := 111) rfl)
theorem w112 {Z : State} {a0 : Array Value} (hw : ∀ d ∈ tables_1, d.before a0 Z = true) : (Jvm.Cond.static ({ cls := "java/lang/StringUTF16", name := "getChar", desc := "([BI)C" } : Jvm.MethodName)).before a0 Z = true := hw _ (List.mem_of_getElem? (i := 112) rfl)
theorem w113 {Z : State} {a0 : Array Value} (hw : ∀ d ∈ tables_1, d.before a0 Z = true) : (Jvm.Cond.code ({ cls := "java/lang/StringUTF16", name := "getChar", desc := "([BI)C" } : Jvm.MethodName) jdk_52_method_5_code (2 : Nat) (Option.some Jvm.ClassFile.FieldType.char)).before a0 Z = true := hw _ (List.mem_of_getElem? (i := 113) rfl)
theorem w114 {Z : State} {a0 : Array Value} (hw : ∀ d ∈ tables_1, d.before a0 Z = true) : (Jvm.Cond.constant "com/example/vestline/vestline/input/SurrogatesFindUnpairedPinLaw" (34 : Nat) (56319 : Int32)).before a0 Z = true := hw _ (List.mem_of_getElem? (i := 114) rfl)
theorem w115 {Z : State} {a0 : Array Value} (hw : ∀ d ∈ tables_1, d.before a0 Z = true) : (Jvm.Cond.constant "com/example/vestline/vestline/input/SurrogatesFindUnpairedPinLaw" (35 : Nat) (57343 : Int32)).before a0 Z = true := hw _ (List.mem_of_getElem? (i := 115) rfl)
theorem w116 {Z : State} {a0 : Array Value} (hw : ∀ d ∈ tables_1, d.before a0 Z = true) : (Jvm.Cond.methodLink "java/lang/String" (498 : Nat) ({ cls := "java/lang/StringUTF16", name := "charAt", desc := "([BI)C" } : Jvm.MethodName)).before a0 Z = true := hw _ (List.mem_of_getElem? (i := 116) rfl)
theorem w117 {Z : State} {a0 : Array Value} (hw : ∀ d ∈ tables_1, d.before a0 Z = true) : (Jvm.Cond.static ({ cls := "java/lang/StringUTF16", name := "charAt", desc := "([BI)C" } : Jvm.MethodName)).before a0 Z = true := hw _ (List.mem_of_getElem? (i := 117) rfl)
theorem w118 {Z : State} {a0 : Array Value} (hw : ∀ d ∈ tables_1, d.before a0 Z = true) : (Jvm.Cond.code ({ cls := "java/lang/StringUTF16", name := "charAt", desc := "([BI)C" } : Jvm.MethodName) jdk_52_method_83_code (2 : Nat) (Option.some Jvm.ClassFile.FieldType.char)).before a0 Z = true := hw _ (List.mem_of_getElem? (i := 118) rfl)
theorem w119 {Z : State} {a0 : Array Value} (hw : ∀ d ∈ tables_1, d.before a0 Z = true) : (Jvm.Cond.methodLink "java/lang/StringUTF16" (67 : Nat) ({ cls := "java/lang/StringUTF16", name := "checkIndex", desc := "(I[B)V" } : Jvm.MethodName)).before a0 Z = true := hw _ (List.mem_of_getElem? (i := 119) rfl)
theorem w120 {Z : State} {a0 : Array Value} (hw : ∀ d ∈ tables_1, d.before a0 Z = true) : (Jvm.Cond.static ({ cls := "java/lang/StringUTF16", name := "checkIndex", desc := "(I[B)V" } : Jvm.MethodName)).before a0 Z = true := hw _ (List.mem_of_getElem? (i := 120) rfl)
theorem w121 {Z : State} {a0 : Array Value} (hw : ∀ d ∈ tables_1, d.before a0 Z = true) : (Jvm.Cond.code ({ cls := "java/lang/StringUTF16", name := "checkIndex", desc := "(I[B)V" } : Jvm.MethodName) jdk_52_method_91_code (2 : Nat) (Option.none : Option Jvm.ClassFile.FieldType)).before a0 Z = true := hw _ (List.mem_of_getElem? (i := 121) rfl)
theorem w122 {Z : State} {a0 : Array Value} (hw : ∀ d ∈ tables_1, d.before a0 Z = true) : (Jvm.Cond.methodLink "java/lang/StringUTF16" (48 : Nat) ({ cls := "java/lang/StringUTF16", name := "length", desc := "([B)I" } : Jvm.MethodName)).before a0 Z = true := hw _ (List.mem_of_getElem? (i := 122) rfl)
theorem w123 {Z : State} {a0 : Array Value} (hw : ∀ d ∈ tables_1, d.before a0 Z = true) : (Jvm.Cond.static ({ cls := "java/lang/StringUTF16", name := "length", desc := "([B)I" } : Jvm.MethodName)).before a0 Z = true := hw _ (List.mem_of_getElem? (i := 123) rfl)
theorem w124 {Z : State} {a0 : Array Value} (hw : ∀ d ∈ tables_1, d.before a0 Z = true) : (Jvm.Cond.code ({ cls := "java/lang/StringUTF16", name := "length", desc := "([B)I" } : Jvm.MethodName) jdk_52_method_6_code (1 : Nat) (Option.some Jvm.ClassFile.FieldType.int)).before a0 Z = true := hw _ (List.mem_of_getElem? (i := 124) rfl)
theorem w125 {Z : State} {a0 : Array Value} (hw : ∀ d ∈ tables_1, d.before a0 Z = true) : (Jvm.Cond.methodLink "java/lang/StringUTF16" (414 : Nat) ({ cls := "java/lang/String", name := "checkIndex", desc := "(II)V" } : Jvm.MethodName)).before a0 Z = true := hw _ (List.mem_of_getElem? (i := 125) rfl)
theorem w126 {Z : State} {a0 : Array Value} (hw : ∀ d ∈ tables_1, d.before a0 Z = true) : (Jvm.Cond.constant "java/lang/Character" (76 : Nat) (56320 : Int32)).before a0 Z = true := hw _ (List.mem_of_getElem? (i := 126) rfl)
theorem w127 {Z : State} {a0 : Array Value} (hw : ∀ d ∈ tables_1, d.before a0 Z = true) : (Jvm.Cond.constant "java/lang/Character" (77 : Nat) (57344 : Int32)).before a0 Z = true := hw _ (List.mem_of_getElem? (i := 127) rfl)
theorem w128 {Z : State} {a0 : Array Value} (hw : ∀ d ∈ tables_1, d.before a0 Z = true) : (Jvm.Cond.methodLink "com/example/vestline/vestline/input/Surrogates" (23 : Nat) ({ cls := "java/lang/Character", name := "isLowSurrogate", desc := "(C)Z" } : Jvm.MethodName)).before a0 Z = true := hw _ (List.mem_of_getElem? (i := 128) rfl)
theorem w129 {Z : State} {a0 : Array Value} (hw : ∀ d ∈ tables_1, d.before a0 Z = true) : (Jvm.Cond.static ({ cls := "java/lang/Character", name := "isLowSurrogate", desc := "(C)Z" } : Jvm.MethodName)).before a0 Z = true := hw _ (List.mem_of_getElem? (i := 129) rfl)
theorem w130 {Z : State} {a0 : Array Value} (hw : ∀ d ∈ tables_1, d.before a0 Z = true) : (Jvm.Cond.code ({ cls := "java/lang/Character", name := "isLowSurrogate", desc := "(C)Z" } : Jvm.MethodName) jdk_89_method_15_code (1 : Nat) (Option.some Jvm.ClassFile.FieldType.boolean)).before a0 Z = true := hw _ (List.mem_of_getElem? (i := 130) rfl)
theorem pd0 : parseMethodDescriptor "(I)I" = some ⟨[.int], some .int⟩ := by decide +kernel
theorem pd1 : parseMethodDescriptor "(I)[B" = some ⟨[.int], some (.array .byte)⟩ := by decide +kernel
theorem pd2 : parseMethodDescriptor "([BII)V" = some ⟨[(.array .byte), .int, .int], none⟩ := by decide +kernel
theorem pd3 : parseMethodDescriptor "([CI[BII)I" = some ⟨[(.array .char), .int, (.array .byte), .int, .int], some .int⟩ := by decide +kernel
theorem pd4 : parseMethodDescriptor "([CII)[B" = some ⟨[(.array .char), .int, .int], some (.array .byte)⟩ := by decide +kernel
theorem pd5 : parseMethodDescriptor "([BI)C" = some ⟨[(.array .byte), .int], some .char⟩ := by decide +kernel
theorem pd6 : parseMethodDescriptor "([BI)B" = some ⟨[(.array .byte), .int], some .byte⟩ := by decide +kernel
theorem pd7 : parseMethodDescriptor "([CIILjava/lang/Void;)V" = some ⟨[(.array .char), .int, .int, (.object "java/lang/Void")], none⟩ := by decide +kernel
theorem pd8 : parseMethodDescriptor "()B" = some ⟨[], some .byte⟩ := by decide +kernel
theorem pd9 : parseMethodDescriptor "(IILjava/util/function/BiFunction;)I" = some ⟨[.int, .int, (.object "java/util/function/BiFunction")], some .int⟩ := by decide +kernel
theorem pd10 : parseMethodDescriptor "([B)I" = some ⟨[(.array .byte)], some .int⟩ := by decide +kernel
theorem pd11 : parseMethodDescriptor "(II)V" = some ⟨[.int, .int], none⟩ := by decide +kernel
theorem pd12 : parseMethodDescriptor "(I[B)V" = some ⟨[.int, (.array .byte)], none⟩ := by decide +kernel
theorem pd13 : parseMethodDescriptor "()Z" = some ⟨[], some .boolean⟩ := by decide +kernel
theorem pd14 : parseMethodDescriptor "([C)V" = some ⟨[(.array .char)], none⟩ := by decide +kernel
theorem pd15 : parseMethodDescriptor "(C)Z" = some ⟨[.char], some .boolean⟩ := by decide +kernel
theorem pd16 : parseMethodDescriptor "()I" = some ⟨[], some .int⟩ := by decide +kernel
theorem pd17 : parseMethodDescriptor "(I)C" = some ⟨[.int], some .char⟩ := by decide +kernel
theorem pd18 : parseMethodDescriptor "(I[C)Ljava/lang/String;" = some ⟨[.int, (.array .char)], some (.object "java/lang/String")⟩ := by decide +kernel
theorem pd19 : parseMethodDescriptor "([CII)Z" = some ⟨[(.array .char), .int, .int], some .boolean⟩ := by decide +kernel
theorem pd20 : parseMethodDescriptor "(Ljava/lang/String;)I" = some ⟨[(.object "java/lang/String")], some .int⟩ := by decide +kernel
theorem dcmp5_0 : decode jdk_52_method_21_code 0 = .ok (.iconst 0, 1) := by decide +kernel
theorem dcmp5_1 : decode jdk_52_method_21_code 1 = .ok (.istore 5, 2) := by decide +kernel
theorem dcmp5_3 : decode jdk_52_method_21_code 3 = .ok (.iload 5, 2) := by decide +kernel
theorem dcmp5_5 : decode jdk_52_method_21_code 5 = .ok (.iload 4, 2) := by decide +kernel
theorem dcmp5_7 : decode jdk_52_method_21_code 7 = .ok (.if_icmp .ge 37, 3) := by decide +kernel
theorem dcmp5_10 : decode jdk_52_method_21_code 10 = .ok (.aload_n 0, 1) := by decide +kernel
theorem dcmp5_11 : decode jdk_52_method_21_code 11 = .ok (.iload_n 1, 1) := by decide +kernel
theorem dcmp5_12 : decode jdk_52_method_21_code 12 = .ok (.caload, 1) := by decide +kernel
theorem dcmp5_13 : decode jdk_52_method_21_code 13 = .ok (.istore 6, 2) := by decide +kernel
theorem dcmp5_15 : decode jdk_52_method_21_code 15 = .ok (.iload 6, 2) := by decide +kernel
theorem dcmp5_17 : decode jdk_52_method_21_code 17 = .ok (.sipush 255, 3) := by decide +kernel
theorem dcmp5_20 : decode jdk_52_method_21_code 20 = .ok (.if_icmp .le 6, 3) := by decide +kernel
theorem dcmp5_23 : decode jdk_52_method_21_code 23 = .ok (.iload 5, 2) := by decide +kernel
theorem dcmp5_25 : decode jdk_52_method_21_code 25 = .ok (.ireturn, 1) := by decide +kernel
theorem dcmp5_26 : decode jdk_52_method_21_code 26 = .ok (.aload_n 2, 1) := by decide +kernel
theorem dcmp5_27 : decode jdk_52_method_21_code 27 = .ok (.iload_n 3, 1) := by decide +kernel
theorem dcmp5_28 : decode jdk_52_method_21_code 28 = .ok (.iload 6, 2) := by decide +kernel
theorem dcmp5_30 : decode jdk_52_method_21_code 30 = .ok (.i2b, 1) := by decide +kernel
theorem dcmp5_31 : decode jdk_52_method_21_code 31 = .ok (.bastore, 1) := by decide +kernel
theorem dcmp5_32 : decode jdk_52_method_21_code 32 = .ok (.iinc 1 1, 3) := by decide +kernel
theorem dcmp5_35 : decode jdk_52_method_21_code 35 = .ok (.iinc 3 1, 3) := by decide +kernel
theorem dcmp5_38 : decode jdk_52_method_21_code 38 = .ok (.iinc 5 1, 3) := by decide +kernel
theorem dcmp5_41 : decode jdk_52_method_21_code 41 = .ok (.goto (-38), 3) := by decide +kernel
theorem dcmp5_44 : decode jdk_52_method_21_code 44 = .ok (.iload 4, 2) := by decide +kernel
theorem dcmp5_46 : decode jdk_52_method_21_code 46 = .ok (.ireturn, 1) := by decide +kernel
abbrev bcmp5 : wkB := (⟨"java/lang/StringUTF16", "compress", "([CI[BII)I"⟩, jdk_52_method_21_code, 7, (some .int))
theorem dcodL_0 : decode jdk_52_method_15_code 0 = .ok (.iload_n 1, 1) := by decide +kernel
theorem dcodL_1 : decode jdk_52_method_15_code 1 = .ok (.aload_n 0, 1) := by decide +kernel
theorem dcodL_2 : decode jdk_52_method_15_code 2 = .ok (.arraylength, 1) := by decide +kernel
theorem dcodL_3 : decode jdk_52_method_15_code 3 = .ok (.isub, 1) := by decide +kernel
theorem dcodL_4 : decode jdk_52_method_15_code 4 = .ok (.bipush 31, 2) := by decide +kernel
theorem dcodL_6 : decode jdk_52_method_15_code 6 = .ok (.iushr, 1) := by decide +kernel
theorem dcodL_7 : decode jdk_52_method_15_code 7 = .ok (.i2b, 1) := by decide +kernel
theorem dcodL_8 : decode jdk_52_method_15_code 8 = .ok (.ireturn, 1) := by decide +kernel
abbrev bcodL : wkB := (⟨"java/lang/StringUTF16", "coderFromArrayLen", "([BI)B"⟩, jdk_52_method_15_code, 2, (some .byte))
theorem dnbl_0 : decode jdk_52_method_3_code 0 = .ok (.iload_n 0, 1) := by decide +kernel
theorem dnbl_1 : decode jdk_52_method_3_code 1 = .ok (.ifCond .ge 11, 3) := by decide +kernel
theorem dnbl_12 : decode jdk_52_method_3_code 12 = .ok (.iload_n 0, 1) := by decide +kernel
theorem dnbl_13 : decode jdk_52_method_3_code 13 = .ok (.ldc 20, 2) := by decide +kernel
theorem dnbl_15 : decode jdk_52_method_3_code 15 = .ok (.if_icmp .lt 40, 3) := by decide +kernel
theorem dnbl_55 : decode jdk_52_method_3_code 55 = .ok (.iload_n 0, 1) := by decide +kernel
theorem dnbl_56 : decode jdk_52_method_3_code 56 = .ok (.iconst 1, 1) := by decide +kernel
theorem dnbl_57 : decode jdk_52_method_3_code 57 = .ok (.ishl, 1) := by decide +kernel
theorem dnbl_58 : decode jdk_52_method_3_code 58 = .ok (.ireturn, 1) := by decide +kernel
abbrev bnbl : wkB := (⟨"java/lang/StringUTF16", "newBytesLength", "(I)I"⟩, jdk_52_method_3_code, 1, (some .int))
theorem dnbf_0 : decode jdk_52_method_2_code 0 = .ok (.iload_n 0, 1) := by decide +kernel
theorem dnbf_1 : decode jdk_52_method_2_code 1 = .ok (.invokestatic 11, 3) := by decide +kernel
theorem dnbf_4 : decode jdk_52_method_2_code 4 = .ok (.newarray .byte, 2) := by decide +kernel
theorem dnbf_6 : decode jdk_52_method_2_code 6 = .ok (.areturn, 1) := by decide +kernel
abbrev bnbf : wkB := (⟨"java/lang/StringUTF16", "newBytesFor", "(I)[B"⟩, jdk_52_method_2_code, 1, (some (.array .byte)))
theorem dulen_0 : decode jdk_52_method_6_code 0 = .ok (.aload_n 0, 1) := by decide +kernel
theorem dulen_1 : decode jdk_52_method_6_code 1 = .ok (.arraylength, 1) := by decide +kernel
theorem dulen_2 : decode jdk_52_method_6_code 2 = .ok (.iconst 1, 1) := by decide +kernel
theorem dulen_3 : decode jdk_52_method_6_code 3 = .ok (.ishr, 1) := by decide +kernel
theorem dulen_4 : decode jdk_52_method_6_code 4 = .ok (.ireturn, 1) := by decide +kernel
abbrev bulen : wkB := (⟨"java/lang/StringUTF16", "length", "([B)I"⟩, jdk_52_method_6_code, 1, (some .int))
theorem dputC_0 : decode jdk_52_method_4_code 0 = .ok (.getstatic 44, 3) := by decide +kernel
theorem dputC_3 : decode jdk_52_method_4_code 3 = .ok (.ifCond .ne 25, 3) := by decide +kernel
theorem dputC_28 : decode jdk_52_method_4_code 28 = .ok (.iload_n 1, 1) := by decide +kernel
theorem dputC_29 : decode jdk_52_method_4_code 29 = .ok (.iconst 1, 1) := by decide +kernel
theorem dputC_30 : decode jdk_52_method_4_code 30 = .ok (.ishl, 1) := by decide +kernel
theorem dputC_31 : decode jdk_52_method_4_code 31 = .ok (.istore_n 1, 1) := by decide +kernel
theorem dputC_32 : decode jdk_52_method_4_code 32 = .ok (.aload_n 0, 1) := by decide +kernel
theorem dputC_33 : decode jdk_52_method_4_code 33 = .ok (.iload_n 1, 1) := by decide +kernel
theorem dputC_34 : decode jdk_52_method_4_code 34 = .ok (.iinc 1 1, 3) := by decide +kernel
theorem dputC_37 : decode jdk_52_method_4_code 37 = .ok (.iload_n 2, 1) := by decide +kernel
theorem dputC_38 : decode jdk_52_method_4_code 38 = .ok (.getstatic 59, 3) := by decide +kernel
theorem dputC_41 : decode jdk_52_method_4_code 41 = .ok (.ishr, 1) := by decide +kernel
theorem dputC_42 : decode jdk_52_method_4_code 42 = .ok (.i2b, 1) := by decide +kernel
theorem dputC_43 : decode jdk_52_method_4_code 43 = .ok (.bastore, 1) := by decide +kernel
theorem dputC_44 : decode jdk_52_method_4_code 44 = .ok (.aload_n 0, 1) := by decide +kernel
theorem dputC_45 : decode jdk_52_method_4_code 45 = .ok (.iload_n 1, 1) := by decide +kernel
theorem dputC_46 : decode jdk_52_method_4_code 46 = .ok (.iload_n 2, 1) := by decide +kernel
theorem dputC_47 : decode jdk_52_method_4_code 47 = .ok (.getstatic 63, 3) := by decide +kernel
theorem dputC_50 : decode jdk_52_method_4_code 50 = .ok (.ishr, 1) := by decide +kernel
theorem dputC_51 : decode jdk_52_method_4_code 51 = .ok (.i2b, 1) := by decide +kernel
theorem dputC_52 : decode jdk_52_method_4_code 52 = .ok (.bastore, 1) := by decide +kernel
theorem dputC_53 : decode jdk_52_method_4_code 53 = .ok (.return_, 1) := by decide +kernel
abbrev bputC : wkB := (⟨"java/lang/StringUTF16", "putChar", "([BII)V"⟩, jdk_52_method_4_code, 3, none)
theorem dgetC_0 : decode jdk_52_method_5_code 0 = .ok (.getstatic 44, 3) := by decide +kernel
theorem dgetC_3 : decode jdk_52_method_5_code 3 = .ok (.ifCond .ne 25, 3) := by decide +kernel
theorem dgetC_28 : decode jdk_52_method_5_code 28 = .ok (.iload_n 1, 1) := by decide +kernel
theorem dgetC_29 : decode jdk_52_method_5_code 29 = .ok (.iconst 1, 1) := by decide +kernel
theorem dgetC_30 : decode jdk_52_method_5_code 30 = .ok (.ishl, 1) := by decide +kernel
theorem dgetC_31 : decode jdk_52_method_5_code 31 = .ok (.istore_n 1, 1) := by decide +kernel
theorem dgetC_32 : decode jdk_52_method_5_code 32 = .ok (.aload_n 0, 1) := by decide +kernel
theorem dgetC_33 : decode jdk_52_method_5_code 33 = .ok (.iload_n 1, 1) := by decide +kernel
theorem dgetC_34 : decode jdk_52_method_5_code 34 = .ok (.iinc 1 1, 3) := by decide +kernel
theorem dgetC_37 : decode jdk_52_method_5_code 37 = .ok (.baload, 1) := by decide +kernel
theorem dgetC_38 : decode jdk_52_method_5_code 38 = .ok (.sipush 255, 3) := by decide +kernel
theorem dgetC_41 : decode jdk_52_method_5_code 41 = .ok (.iand, 1) := by decide +kernel
theorem dgetC_42 : decode jdk_52_method_5_code 42 = .ok (.getstatic 59, 3) := by decide +kernel
theorem dgetC_45 : decode jdk_52_method_5_code 45 = .ok (.ishl, 1) := by decide +kernel
theorem dgetC_46 : decode jdk_52_method_5_code 46 = .ok (.aload_n 0, 1) := by decide +kernel
theorem dgetC_47 : decode jdk_52_method_5_code 47 = .ok (.iload_n 1, 1) := by decide +kernel
theorem dgetC_48 : decode jdk_52_method_5_code 48 = .ok (.baload, 1) := by decide +kernel
theorem dgetC_49 : decode jdk_52_method_5_code 49 = .ok (.sipush 255, 3) := by decide +kernel
theorem dgetC_52 : decode jdk_52_method_5_code 52 = .ok (.iand, 1) := by decide +kernel
theorem dgetC_53 : decode jdk_52_method_5_code 53 = .ok (.getstatic 63, 3) := by decide +kernel
theorem dgetC_56 : decode jdk_52_method_5_code 56 = .ok (.ishl, 1) := by decide +kernel
theorem dgetC_57 : decode jdk_52_method_5_code 57 = .ok (.ior, 1) := by decide +kernel
theorem dgetC_58 : decode jdk_52_method_5_code 58 = .ok (.i2c, 1) := by decide +kernel
theorem dgetC_59 : decode jdk_52_method_5_code 59 = .ok (.ireturn, 1) := by decide +kernel
abbrev bgetC : wkB := (⟨"java/lang/StringUTF16", "getChar", "([BI)C"⟩, jdk_52_method_5_code, 2, (some .char))
theorem dtoBy_0 : decode jdk_52_method_14_code 0 = .ok (.iload_n 2, 1) := by decide +kernel
theorem dtoBy_1 : decode jdk_52_method_14_code 1 = .ok (.invokestatic 107, 3) := by decide +kernel
theorem dtoBy_4 : decode jdk_52_method_14_code 4 = .ok (.astore_n 3, 1) := by decide +kernel
theorem dtoBy_5 : decode jdk_52_method_14_code 5 = .ok (.iconst 0, 1) := by decide +kernel
theorem dtoBy_6 : decode jdk_52_method_14_code 6 = .ok (.istore 4, 2) := by decide +kernel
theorem dtoBy_8 : decode jdk_52_method_14_code 8 = .ok (.iload 4, 2) := by decide +kernel
theorem dtoBy_10 : decode jdk_52_method_14_code 10 = .ok (.iload_n 2, 1) := by decide +kernel
theorem dtoBy_11 : decode jdk_52_method_14_code 11 = .ok (.if_icmp .ge 21, 3) := by decide +kernel
theorem dtoBy_14 : decode jdk_52_method_14_code 14 = .ok (.aload_n 3, 1) := by decide +kernel
theorem dtoBy_15 : decode jdk_52_method_14_code 15 = .ok (.iload 4, 2) := by decide +kernel
theorem dtoBy_17 : decode jdk_52_method_14_code 17 = .ok (.aload_n 0, 1) := by decide +kernel
theorem dtoBy_18 : decode jdk_52_method_14_code 18 = .ok (.iload_n 1, 1) := by decide +kernel
theorem dtoBy_19 : decode jdk_52_method_14_code 19 = .ok (.caload, 1) := by decide +kernel
theorem dtoBy_20 : decode jdk_52_method_14_code 20 = .ok (.invokestatic 111, 3) := by decide +kernel
theorem dtoBy_23 : decode jdk_52_method_14_code 23 = .ok (.iinc 1 1, 3) := by decide +kernel
theorem dtoBy_26 : decode jdk_52_method_14_code 26 = .ok (.iinc 4 1, 3) := by decide +kernel
theorem dtoBy_29 : decode jdk_52_method_14_code 29 = .ok (.goto (-21), 3) := by decide +kernel
theorem dtoBy_32 : decode jdk_52_method_14_code 32 = .ok (.aload_n 3, 1) := by decide +kernel
theorem dtoBy_33 : decode jdk_52_method_14_code 33 = .ok (.areturn, 1) := by decide +kernel
abbrev btoBy : wkB := (⟨"java/lang/StringUTF16", "toBytes", "([CII)[B"⟩, jdk_52_method_14_code, 5, (some (.array .byte)))
theorem dcmp3_0 : decode jdk_52_method_16_code 0 = .ok (.iload_n 2, 1) := by decide +kernel
theorem dcmp3_1 : decode jdk_52_method_16_code 1 = .ok (.newarray .byte, 2) := by decide +kernel
theorem dcmp3_3 : decode jdk_52_method_16_code 3 = .ok (.astore_n 3, 1) := by decide +kernel
theorem dcmp3_4 : decode jdk_52_method_16_code 4 = .ok (.aload_n 0, 1) := by decide +kernel
theorem dcmp3_5 : decode jdk_52_method_16_code 5 = .ok (.iload_n 1, 1) := by decide +kernel
theorem dcmp3_6 : decode jdk_52_method_16_code 6 = .ok (.aload_n 3, 1) := by decide +kernel
theorem dcmp3_7 : decode jdk_52_method_16_code 7 = .ok (.iconst 0, 1) := by decide +kernel
theorem dcmp3_8 : decode jdk_52_method_16_code 8 = .ok (.iload_n 2, 1) := by decide +kernel
theorem dcmp3_9 : decode jdk_52_method_16_code 9 = .ok (.invokestatic 115, 3) := by decide +kernel
theorem dcmp3_12 : decode jdk_52_method_16_code 12 = .ok (.istore 4, 2) := by decide +kernel
theorem dcmp3_14 : decode jdk_52_method_16_code 14 = .ok (.iload 4, 2) := by decide +kernel
theorem dcmp3_16 : decode jdk_52_method_16_code 16 = .ok (.iload_n 2, 1) := by decide +kernel
theorem dcmp3_17 : decode jdk_52_method_16_code 17 = .ok (.if_icmp .eq 40, 3) := by decide +kernel
theorem dcmp3_20 : decode jdk_52_method_16_code 20 = .ok (.aload_n 0, 1) := by decide +kernel
theorem dcmp3_21 : decode jdk_52_method_16_code 21 = .ok (.iload_n 1, 1) := by decide +kernel
theorem dcmp3_22 : decode jdk_52_method_16_code 22 = .ok (.iload_n 2, 1) := by decide +kernel
theorem dcmp3_23 : decode jdk_52_method_16_code 23 = .ok (.invokestatic 119, 3) := by decide +kernel
theorem dcmp3_26 : decode jdk_52_method_16_code 26 = .ok (.astore 5, 2) := by decide +kernel
theorem dcmp3_28 : decode jdk_52_method_16_code 28 = .ok (.aload 5, 2) := by decide +kernel
theorem dcmp3_30 : decode jdk_52_method_16_code 30 = .ok (.iload 4, 2) := by decide +kernel
theorem dcmp3_32 : decode jdk_52_method_16_code 32 = .ok (.invokestatic 71, 3) := by decide +kernel
theorem dcmp3_35 : decode jdk_52_method_16_code 35 = .ok (.sipush 255, 3) := by decide +kernel
theorem dcmp3_38 : decode jdk_52_method_16_code 38 = .ok (.if_icmp .gt 16, 3) := by decide +kernel
theorem dcmp3_54 : decode jdk_52_method_16_code 54 = .ok (.aload 5, 2) := by decide +kernel
theorem dcmp3_56 : decode jdk_52_method_16_code 56 = .ok (.areturn, 1) := by decide +kernel
theorem dcmp3_57 : decode jdk_52_method_16_code 57 = .ok (.aload_n 3, 1) := by decide +kernel
theorem dcmp3_58 : decode jdk_52_method_16_code 58 = .ok (.areturn, 1) := by decide +kernel
abbrev bcmp3 : wkB := (⟨"java/lang/StringUTF16", "compress", "([CII)[B"⟩, jdk_52_method_16_code, 6, (some (.array .byte)))
theorem dinit4_0 : decode jdk_42_method_149_code 0 = .ok (.aload_n 0, 1) := by decide +kernel
theorem dinit4_1 : decode jdk_42_method_149_code 1 = .ok (.invokespecial 1, 3) := by decide +kernel
theorem dinit4_4 : decode jdk_42_method_149_code 4 = .ok (.iload_n 3, 1) := by decide +kernel
theorem dinit4_5 : decode jdk_42_method_149_code 5 = .ok (.ifCond .ne 22, 3) := by decide +kernel
theorem dinit4_8 : decode jdk_42_method_149_code 8 = .ok (.aload_n 0, 1) := by decide +kernel
theorem dinit4_9 : decode jdk_42_method_149_code 9 = .ok (.ldc 7, 2) := by decide +kernel
theorem dinit4_11 : decode jdk_42_method_149_code 11 = .ok (.getfield 9, 3) := by decide +kernel
theorem dinit4_14 : decode jdk_42_method_149_code 14 = .ok (.putfield 9, 3) := by decide +kernel
theorem dinit4_17 : decode jdk_42_method_149_code 17 = .ok (.aload_n 0, 1) := by decide +kernel
theorem dinit4_18 : decode jdk_42_method_149_code 18 = .ok (.ldc 7, 2) := by decide +kernel
theorem dinit4_20 : decode jdk_42_method_149_code 20 = .ok (.getfield 15, 3) := by decide +kernel
theorem dinit4_23 : decode jdk_42_method_149_code 23 = .ok (.putfield 15, 3) := by decide +kernel
theorem dinit4_26 : decode jdk_42_method_149_code 26 = .ok (.return_, 1) := by decide +kernel
theorem dinit4_27 : decode jdk_42_method_149_code 27 = .ok (.getstatic 38, 3) := by decide +kernel
theorem dinit4_30 : decode jdk_42_method_149_code 30 = .ok (.ifCond .eq 28, 3) := by decide +kernel
theorem dinit4_33 : decode jdk_42_method_149_code 33 = .ok (.aload_n 1, 1) := by decide +kernel
theorem dinit4_34 : decode jdk_42_method_149_code 34 = .ok (.iload_n 2, 1) := by decide +kernel
theorem dinit4_35 : decode jdk_42_method_149_code 35 = .ok (.iload_n 3, 1) := by decide +kernel
theorem dinit4_36 : decode jdk_42_method_149_code 36 = .ok (.invokestatic 177, 3) := by decide +kernel
theorem dinit4_39 : decode jdk_42_method_149_code 39 = .ok (.astore 5, 2) := by decide +kernel
theorem dinit4_41 : decode jdk_42_method_149_code 41 = .ok (.aload_n 0, 1) := by decide +kernel
theorem dinit4_42 : decode jdk_42_method_149_code 42 = .ok (.aload 5, 2) := by decide +kernel
theorem dinit4_44 : decode jdk_42_method_149_code 44 = .ok (.iload_n 3, 1) := by decide +kernel
theorem dinit4_45 : decode jdk_42_method_149_code 45 = .ok (.invokestatic 47, 3) := by decide +kernel
theorem dinit4_48 : decode jdk_42_method_149_code 48 = .ok (.putfield 15, 3) := by decide +kernel
theorem dinit4_51 : decode jdk_42_method_149_code 51 = .ok (.aload_n 0, 1) := by decide +kernel
theorem dinit4_52 : decode jdk_42_method_149_code 52 = .ok (.aload 5, 2) := by decide +kernel
theorem dinit4_54 : decode jdk_42_method_149_code 54 = .ok (.putfield 9, 3) := by decide +kernel
theorem dinit4_57 : decode jdk_42_method_149_code 57 = .ok (.return_, 1) := by decide +kernel
abbrev binit4 : wkB := (⟨"java/lang/String", "<init>", "([CIILjava/lang/Void;)V"⟩, jdk_42_method_149_code, 6, none)
theorem dinit1_0 : decode jdk_42_method_3_code 0 = .ok (.aload_n 0, 1) := by decide +kernel
theorem dinit1_1 : decode jdk_42_method_3_code 1 = .ok (.aload_n 1, 1) := by decide +kernel
theorem dinit1_2 : decode jdk_42_method_3_code 2 = .ok (.iconst 0, 1) := by decide +kernel
theorem dinit1_3 : decode jdk_42_method_3_code 3 = .ok (.aload_n 1, 1) := by decide +kernel
theorem dinit1_4 : decode jdk_42_method_3_code 4 = .ok (.arraylength, 1) := by decide +kernel
theorem dinit1_5 : decode jdk_42_method_3_code 5 = .ok (.aconst_null, 1) := by decide +kernel
theorem dinit1_6 : decode jdk_42_method_3_code 6 = .ok (.invokespecial 27, 3) := by decide +kernel
theorem dinit1_9 : decode jdk_42_method_3_code 9 = .ok (.return_, 1) := by decide +kernel
abbrev binit1 : wkB := (⟨"java/lang/String", "<init>", "([C)V"⟩, jdk_42_method_3_code, 2, none)
theorem dcoder_0 : decode jdk_42_method_152_code 0 = .ok (.getstatic 38, 3) := by decide +kernel
theorem dcoder_3 : decode jdk_42_method_152_code 3 = .ok (.ifCond .eq 10, 3) := by decide +kernel
theorem dcoder_6 : decode jdk_42_method_152_code 6 = .ok (.aload_n 0, 1) := by decide +kernel
theorem dcoder_7 : decode jdk_42_method_152_code 7 = .ok (.getfield 15, 3) := by decide +kernel
theorem dcoder_10 : decode jdk_42_method_152_code 10 = .ok (.goto 4, 3) := by decide +kernel
theorem dcoder_14 : decode jdk_42_method_152_code 14 = .ok (.ireturn, 1) := by decide +kernel
abbrev bcoder : wkB := (⟨"java/lang/String", "coder", "()B"⟩, jdk_42_method_152_code, 1, (some .byte))
theorem disLat_0 : decode jdk_42_method_154_code 0 = .ok (.getstatic 38, 3) := by decide +kernel
theorem disLat_3 : decode jdk_42_method_154_code 3 = .ok (.ifCond .eq 14, 3) := by decide +kernel
theorem disLat_6 : decode jdk_42_method_154_code 6 = .ok (.aload_n 0, 1) := by decide +kernel
theorem disLat_7 : decode jdk_42_method_154_code 7 = .ok (.getfield 15, 3) := by decide +kernel
theorem disLat_10 : decode jdk_42_method_154_code 10 = .ok (.ifCond .ne 7, 3) := by decide +kernel
theorem disLat_13 : decode jdk_42_method_154_code 13 = .ok (.iconst 1, 1) := by decide +kernel
theorem disLat_14 : decode jdk_42_method_154_code 14 = .ok (.goto 4, 3) := by decide +kernel
theorem disLat_17 : decode jdk_42_method_154_code 17 = .ok (.iconst 0, 1) := by decide +kernel
theorem disLat_18 : decode jdk_42_method_154_code 18 = .ok (.ireturn, 1) := by decide +kernel
abbrev bisLat : wkB := (⟨"java/lang/String", "isLatin1", "()Z"⟩, jdk_42_method_154_code, 1, (some .boolean))
theorem dlen_0 : decode jdk_42_method_54_code 0 = .ok (.aload_n 0, 1) := by decide +kernel
theorem dlen_1 : decode jdk_42_method_54_code 1 = .ok (.getfield 9, 3) := by decide +kernel
theorem dlen_4 : decode jdk_42_method_54_code 4 = .ok (.arraylength, 1) := by decide +kernel
theorem dlen_5 : decode jdk_42_method_54_code 5 = .ok (.aload_n 0, 1) := by decide +kernel
theorem dlen_6 : decode jdk_42_method_54_code 6 = .ok (.invokevirtual 335, 3) := by decide +kernel
theorem dlen_9 : decode jdk_42_method_54_code 9 = .ok (.ishr, 1) := by decide +kernel
theorem dlen_10 : decode jdk_42_method_54_code 10 = .ok (.ireturn, 1) := by decide +kernel
abbrev blen : wkB := (⟨"java/lang/String", "length", "()I"⟩, jdk_42_method_54_code, 1, (some .int))
theorem dpchk_0 : decode jdk_41_method_11_code 0 = .ok (.iload_n 0, 1) := by decide +kernel
theorem dpchk_1 : decode jdk_41_method_11_code 1 = .ok (.ifCond .lt 8, 3) := by decide +kernel
theorem dpchk_4 : decode jdk_41_method_11_code 4 = .ok (.iload_n 0, 1) := by decide +kernel
theorem dpchk_5 : decode jdk_41_method_11_code 5 = .ok (.iload_n 1, 1) := by decide +kernel
theorem dpchk_6 : decode jdk_41_method_11_code 6 = .ok (.if_icmp .lt 10, 3) := by decide +kernel
theorem dpchk_16 : decode jdk_41_method_11_code 16 = .ok (.iload_n 0, 1) := by decide +kernel
theorem dpchk_17 : decode jdk_41_method_11_code 17 = .ok (.ireturn, 1) := by decide +kernel
abbrev bpchk : wkB := (⟨"jdk/internal/util/Preconditions", "checkIndex", "(IILjava/util/function/BiFunction;)I"⟩, jdk_41_method_11_code, 3, (some .int))
theorem dschk_0 : decode jdk_42_method_155_code 0 = .ok (.iload_n 0, 1) := by decide +kernel
theorem dschk_1 : decode jdk_42_method_155_code 1 = .ok (.iload_n 1, 1) := by decide +kernel
theorem dschk_2 : decode jdk_42_method_155_code 2 = .ok (.getstatic 1053, 3) := by decide +kernel
theorem dschk_5 : decode jdk_42_method_155_code 5 = .ok (.invokestatic 1059, 3) := by decide +kernel
theorem dschk_8 : decode jdk_42_method_155_code 8 = .ok (.pop, 1) := by decide +kernel
theorem dschk_9 : decode jdk_42_method_155_code 9 = .ok (.return_, 1) := by decide +kernel
abbrev bschk : wkB := (⟨"java/lang/String", "checkIndex", "(II)V"⟩, jdk_42_method_155_code, 2, none)
theorem duchk_0 : decode jdk_52_method_91_code 0 = .ok (.iload_n 0, 1) := by decide +kernel
theorem duchk_1 : decode jdk_52_method_91_code 1 = .ok (.aload_n 1, 1) := by decide +kernel
theorem duchk_2 : decode jdk_52_method_91_code 2 = .ok (.invokestatic 48, 3) := by decide +kernel
theorem duchk_5 : decode jdk_52_method_91_code 5 = .ok (.invokestatic 414, 3) := by decide +kernel
theorem duchk_8 : decode jdk_52_method_91_code 8 = .ok (.return_, 1) := by decide +kernel
abbrev buchk : wkB := (⟨"java/lang/StringUTF16", "checkIndex", "(I[B)V"⟩, jdk_52_method_91_code, 2, none)
theorem dlch_0 : decode jdk_43_method_2_code 0 = .ok (.iload_n 1, 1) := by decide +kernel
theorem dlch_1 : decode jdk_43_method_2_code 1 = .ok (.aload_n 0, 1) := by decide +kernel
theorem dlch_2 : decode jdk_43_method_2_code 2 = .ok (.arraylength, 1) := by decide +kernel
theorem dlch_3 : decode jdk_43_method_2_code 3 = .ok (.invokestatic 9, 3) := by decide +kernel
theorem dlch_6 : decode jdk_43_method_2_code 6 = .ok (.aload_n 0, 1) := by decide +kernel
theorem dlch_7 : decode jdk_43_method_2_code 7 = .ok (.iload_n 1, 1) := by decide +kernel
theorem dlch_8 : decode jdk_43_method_2_code 8 = .ok (.baload, 1) := by decide +kernel
theorem dlch_9 : decode jdk_43_method_2_code 9 = .ok (.sipush 255, 3) := by decide +kernel
theorem dlch_12 : decode jdk_43_method_2_code 12 = .ok (.iand, 1) := by decide +kernel
theorem dlch_13 : decode jdk_43_method_2_code 13 = .ok (.i2c, 1) := by decide +kernel
theorem dlch_14 : decode jdk_43_method_2_code 14 = .ok (.ireturn, 1) := by decide +kernel
abbrev blch : wkB := (⟨"java/lang/StringLatin1", "charAt", "([BI)C"⟩, jdk_43_method_2_code, 2, (some .char))
theorem duch_0 : decode jdk_52_method_83_code 0 = .ok (.iload_n 1, 1) := by decide +kernel
theorem duch_1 : decode jdk_52_method_83_code 1 = .ok (.aload_n 0, 1) := by decide +kernel
theorem duch_2 : decode jdk_52_method_83_code 2 = .ok (.invokestatic 67, 3) := by decide +kernel
theorem duch_5 : decode jdk_52_method_83_code 5 = .ok (.aload_n 0, 1) := by decide +kernel
theorem duch_6 : decode jdk_52_method_83_code 6 = .ok (.iload_n 1, 1) := by decide +kernel
theorem duch_7 : decode jdk_52_method_83_code 7 = .ok (.invokestatic 71, 3) := by decide +kernel
theorem duch_10 : decode jdk_52_method_83_code 10 = .ok (.ireturn, 1) := by decide +kernel
abbrev buch : wkB := (⟨"java/lang/StringUTF16", "charAt", "([BI)C"⟩, jdk_52_method_83_code, 2, (some .char))
theorem dchAt_0 : decode jdk_42_method_56_code 0 = .ok (.aload_n 0, 1) := by decide +kernel
theorem dchAt_1 : decode jdk_42_method_56_code 1 = .ok (.invokevirtual 492, 3) := by decide +kernel
theorem dchAt_4 : decode jdk_42_method_56_code 4 = .ok (.ifCond .eq 12, 3) := by decide +kernel
theorem dchAt_7 : decode jdk_42_method_56_code 7 = .ok (.aload_n 0, 1) := by decide +kernel
theorem dchAt_8 : decode jdk_42_method_56_code 8 = .ok (.getfield 9, 3) := by decide +kernel
theorem dchAt_11 : decode jdk_42_method_56_code 11 = .ok (.iload_n 1, 1) := by decide +kernel
theorem dchAt_12 : decode jdk_42_method_56_code 12 = .ok (.invokestatic 495, 3) := by decide +kernel
theorem dchAt_15 : decode jdk_42_method_56_code 15 = .ok (.ireturn, 1) := by decide +kernel
theorem dchAt_16 : decode jdk_42_method_56_code 16 = .ok (.aload_n 0, 1) := by decide +kernel
theorem dchAt_17 : decode jdk_42_method_56_code 17 = .ok (.getfield 9, 3) := by decide +kernel
theorem dchAt_20 : decode jdk_42_method_56_code 20 = .ok (.iload_n 1, 1) := by decide +kernel
theorem dchAt_21 : decode jdk_42_method_56_code 21 = .ok (.invokestatic 498, 3) := by decide +kernel
theorem dchAt_24 : decode jdk_42_method_56_code 24 = .ok (.ireturn, 1) := by decide +kernel
abbrev bchAt : wkB := (⟨"java/lang/String", "charAt", "(I)C"⟩, jdk_42_method_56_code, 2, (some .char))
theorem disH_0 : decode method_5_code 0 = .ok (.iload_n 0, 1) := by decide +kernel
theorem disH_1 : decode method_5_code 1 = .ok (.ldc 27, 2) := by decide +kernel
theorem disH_3 : decode method_5_code 3 = .ok (.if_icmp .lt 13, 3) := by decide +kernel
theorem disH_6 : decode method_5_code 6 = .ok (.iload_n 0, 1) := by decide +kernel
theorem disH_7 : decode method_5_code 7 = .ok (.ldc 34, 2) := by decide +kernel
theorem disH_9 : decode method_5_code 9 = .ok (.if_icmp .gt 7, 3) := by decide +kernel
theorem disH_12 : decode method_5_code 12 = .ok (.iconst 1, 1) := by decide +kernel
theorem disH_13 : decode method_5_code 13 = .ok (.goto 4, 3) := by decide +kernel
theorem disH_16 : decode method_5_code 16 = .ok (.iconst 0, 1) := by decide +kernel
theorem disH_17 : decode method_5_code 17 = .ok (.ireturn, 1) := by decide +kernel
abbrev bisH : wkB := (⟨"com/example/vestline/vestline/input/SurrogatesFindUnpairedPinLaw", "isHigh", "(C)Z"⟩, method_5_code, 1, (some .boolean))
theorem disL_0 : decode method_6_code 0 = .ok (.iload_n 0, 1) := by decide +kernel
theorem disL_1 : decode method_6_code 1 = .ok (.ldc 28, 2) := by decide +kernel
theorem disL_3 : decode method_6_code 3 = .ok (.if_icmp .lt 13, 3) := by decide +kernel
theorem disL_6 : decode method_6_code 6 = .ok (.iload_n 0, 1) := by decide +kernel
theorem disL_7 : decode method_6_code 7 = .ok (.ldc 35, 2) := by decide +kernel
theorem disL_9 : decode method_6_code 9 = .ok (.if_icmp .gt 7, 3) := by decide +kernel
theorem disL_12 : decode method_6_code 12 = .ok (.iconst 1, 1) := by decide +kernel
theorem disL_13 : decode method_6_code 13 = .ok (.goto 4, 3) := by decide +kernel
theorem disL_16 : decode method_6_code 16 = .ok (.iconst 0, 1) := by decide +kernel
theorem disL_17 : decode method_6_code 17 = .ok (.ireturn, 1) := by decide +kernel
abbrev bisL : wkB := (⟨"com/example/vestline/vestline/input/SurrogatesFindUnpairedPinLaw", "isLow", "(C)Z"⟩, method_6_code, 1, (some .boolean))
theorem dcH_0 : decode jdk_89_method_14_code 0 = .ok (.iload_n 0, 1) := by decide +kernel
theorem dcH_1 : decode jdk_89_method_14_code 1 = .ok (.ldc 75, 2) := by decide +kernel
theorem dcH_3 : decode jdk_89_method_14_code 3 = .ok (.if_icmp .lt 13, 3) := by decide +kernel
theorem dcH_6 : decode jdk_89_method_14_code 6 = .ok (.iload_n 0, 1) := by decide +kernel
theorem dcH_7 : decode jdk_89_method_14_code 7 = .ok (.ldc 76, 2) := by decide +kernel
theorem dcH_9 : decode jdk_89_method_14_code 9 = .ok (.if_icmp .ge 7, 3) := by decide +kernel
theorem dcH_12 : decode jdk_89_method_14_code 12 = .ok (.iconst 1, 1) := by decide +kernel
theorem dcH_13 : decode jdk_89_method_14_code 13 = .ok (.goto 4, 3) := by decide +kernel
theorem dcH_16 : decode jdk_89_method_14_code 16 = .ok (.iconst 0, 1) := by decide +kernel
theorem dcH_17 : decode jdk_89_method_14_code 17 = .ok (.ireturn, 1) := by decide +kernel
abbrev bcH : wkB := (⟨"java/lang/Character", "isHighSurrogate", "(C)Z"⟩, jdk_89_method_14_code, 1, (some .boolean))
theorem dcL_0 : decode jdk_89_method_15_code 0 = .ok (.iload_n 0, 1) := by decide +kernel
theorem dcL_1 : decode jdk_89_method_15_code 1 = .ok (.ldc 76, 2) := by decide +kernel
theorem dcL_3 : decode jdk_89_method_15_code 3 = .ok (.if_icmp .lt 13, 3) := by decide +kernel
theorem dcL_6 : decode jdk_89_method_15_code 6 = .ok (.iload_n 0, 1) := by decide +kernel
theorem dcL_7 : decode jdk_89_method_15_code 7 = .ok (.ldc 77, 2) := by decide +kernel
theorem dcL_9 : decode jdk_89_method_15_code 9 = .ok (.if_icmp .ge 7, 3) := by decide +kernel
theorem dcL_12 : decode jdk_89_method_15_code 12 = .ok (.iconst 1, 1) := by decide +kernel
theorem dcL_13 : decode jdk_89_method_15_code 13 = .ok (.goto 4, 3) := by decide +kernel
theorem dcL_16 : decode jdk_89_method_15_code 16 = .ok (.iconst 0, 1) := by decide +kernel
theorem dcL_17 : decode jdk_89_method_15_code 17 = .ok (.ireturn, 1) := by decide +kernel
abbrev bcL : wkB := (⟨"java/lang/Character", "isLowSurrogate", "(C)Z"⟩, jdk_89_method_15_code, 1, (some .boolean))
theorem dcS_0 : decode jdk_89_method_16_code 0 = .ok (.iload_n 0, 1) := by decide +kernel
theorem dcS_1 : decode jdk_89_method_16_code 1 = .ok (.ldc 75, 2) := by decide +kernel
theorem dcS_3 : decode jdk_89_method_16_code 3 = .ok (.if_icmp .lt 13, 3) := by decide +kernel
theorem dcS_6 : decode jdk_89_method_16_code 6 = .ok (.iload_n 0, 1) := by decide +kernel
theorem dcS_7 : decode jdk_89_method_16_code 7 = .ok (.ldc 77, 2) := by decide +kernel
theorem dcS_9 : decode jdk_89_method_16_code 9 = .ok (.if_icmp .ge 7, 3) := by decide +kernel
theorem dcS_12 : decode jdk_89_method_16_code 12 = .ok (.iconst 1, 1) := by decide +kernel
theorem dcS_13 : decode jdk_89_method_16_code 13 = .ok (.goto 4, 3) := by decide +kernel
theorem dcS_16 : decode jdk_89_method_16_code 16 = .ok (.iconst 0, 1) := by decide +kernel
theorem dcS_17 : decode jdk_89_method_16_code 17 = .ok (.ireturn, 1) := by decide +kernel
abbrev bcS : wkB := (⟨"java/lang/Character", "isSurrogate", "(C)Z"⟩, jdk_89_method_16_code, 1, (some .boolean))
theorem ddraw_0 : decode method_3_code 0 = .ok (.iload_n 0, 1) := by decide +kernel
theorem ddraw_1 : decode method_3_code 1 = .ok (.bipush 16, 2) := by decide +kernel
theorem ddraw_3 : decode method_3_code 3 = .ok (.iushr, 1) := by decide +kernel
theorem ddraw_4 : decode method_3_code 4 = .ok (.iconst 3, 1) := by decide +kernel
theorem ddraw_5 : decode method_3_code 5 = .ok (.iand, 1) := by decide +kernel
theorem ddraw_6 : decode method_3_code 6 = .ok (.istore_n 1, 1) := by decide +kernel
theorem ddraw_7 : decode method_3_code 7 = .ok (.iload_n 1, 1) := by decide +kernel
theorem ddraw_8 : decode method_3_code 8 = .ok (.iconst 1, 1) := by decide +kernel
theorem ddraw_9 : decode method_3_code 9 = .ok (.if_icmp .ne 13, 3) := by decide +kernel
theorem ddraw_12 : decode method_3_code 12 = .ok (.ldc 27, 2) := by decide +kernel
theorem ddraw_14 : decode method_3_code 14 = .ok (.iload_n 0, 1) := by decide +kernel
theorem ddraw_15 : decode method_3_code 15 = .ok (.sipush 1023, 3) := by decide +kernel
theorem ddraw_18 : decode method_3_code 18 = .ok (.iand, 1) := by decide +kernel
theorem ddraw_19 : decode method_3_code 19 = .ok (.ior, 1) := by decide +kernel
theorem ddraw_20 : decode method_3_code 20 = .ok (.i2c, 1) := by decide +kernel
theorem ddraw_21 : decode method_3_code 21 = .ok (.ireturn, 1) := by decide +kernel
theorem ddraw_22 : decode method_3_code 22 = .ok (.iload_n 1, 1) := by decide +kernel
theorem ddraw_23 : decode method_3_code 23 = .ok (.iconst 2, 1) := by decide +kernel
theorem ddraw_24 : decode method_3_code 24 = .ok (.if_icmp .ne 13, 3) := by decide +kernel
theorem ddraw_27 : decode method_3_code 27 = .ok (.ldc 28, 2) := by decide +kernel
theorem ddraw_29 : decode method_3_code 29 = .ok (.iload_n 0, 1) := by decide +kernel
theorem ddraw_30 : decode method_3_code 30 = .ok (.sipush 1023, 3) := by decide +kernel
theorem ddraw_33 : decode method_3_code 33 = .ok (.iand, 1) := by decide +kernel
theorem ddraw_34 : decode method_3_code 34 = .ok (.ior, 1) := by decide +kernel
theorem ddraw_35 : decode method_3_code 35 = .ok (.i2c, 1) := by decide +kernel
theorem ddraw_36 : decode method_3_code 36 = .ok (.ireturn, 1) := by decide +kernel
theorem ddraw_37 : decode method_3_code 37 = .ok (.iload_n 0, 1) := by decide +kernel
theorem ddraw_38 : decode method_3_code 38 = .ok (.i2c, 1) := by decide +kernel
theorem ddraw_39 : decode method_3_code 39 = .ok (.ireturn, 1) := by decide +kernel
abbrev bdraw : wkB := (⟨"com/example/vestline/vestline/input/SurrogatesFindUnpairedPinLaw", "draw", "(I)C"⟩, method_3_code, 2, (some .char))
theorem dmake_0 : decode method_4_code 0 = .ok (.iload_n 0, 1) := by decide +kernel
theorem dmake_1 : decode method_4_code 1 = .ok (.ifCond .ne 14, 3) := by decide +kernel
theorem dmake_4 : decode method_4_code 4 = .ok (.new 29, 3) := by decide +kernel
theorem dmake_7 : decode method_4_code 7 = .ok (.dup, 1) := by decide +kernel
theorem dmake_8 : decode method_4_code 8 = .ok (.iconst 0, 1) := by decide +kernel
theorem dmake_9 : decode method_4_code 9 = .ok (.newarray .char, 2) := by decide +kernel
theorem dmake_11 : decode method_4_code 11 = .ok (.invokespecial 31, 3) := by decide +kernel
theorem dmake_14 : decode method_4_code 14 = .ok (.areturn, 1) := by decide +kernel
theorem dmake_15 : decode method_4_code 15 = .ok (.iload_n 0, 1) := by decide +kernel
theorem dmake_16 : decode method_4_code 16 = .ok (.iconst 1, 1) := by decide +kernel
theorem dmake_17 : decode method_4_code 17 = .ok (.if_icmp .ne 20, 3) := by decide +kernel
theorem dmake_20 : decode method_4_code 20 = .ok (.new 29, 3) := by decide +kernel
theorem dmake_23 : decode method_4_code 23 = .ok (.dup, 1) := by decide +kernel
theorem dmake_24 : decode method_4_code 24 = .ok (.iconst 1, 1) := by decide +kernel
theorem dmake_25 : decode method_4_code 25 = .ok (.newarray .char, 2) := by decide +kernel
theorem dmake_27 : decode method_4_code 27 = .ok (.dup, 1) := by decide +kernel
theorem dmake_28 : decode method_4_code 28 = .ok (.iconst 0, 1) := by decide +kernel
theorem dmake_29 : decode method_4_code 29 = .ok (.aload_n 1, 1) := by decide +kernel
theorem dmake_30 : decode method_4_code 30 = .ok (.iconst 0, 1) := by decide +kernel
theorem dmake_31 : decode method_4_code 31 = .ok (.caload, 1) := by decide +kernel
theorem dmake_32 : decode method_4_code 32 = .ok (.castore, 1) := by decide +kernel
theorem dmake_33 : decode method_4_code 33 = .ok (.invokespecial 31, 3) := by decide +kernel
theorem dmake_36 : decode method_4_code 36 = .ok (.areturn, 1) := by decide +kernel
theorem dmake_37 : decode method_4_code 37 = .ok (.iload_n 0, 1) := by decide +kernel
theorem dmake_38 : decode method_4_code 38 = .ok (.iconst 2, 1) := by decide +kernel
theorem dmake_39 : decode method_4_code 39 = .ok (.if_icmp .ne 26, 3) := by decide +kernel
theorem dmake_42 : decode method_4_code 42 = .ok (.new 29, 3) := by decide +kernel
theorem dmake_45 : decode method_4_code 45 = .ok (.dup, 1) := by decide +kernel
theorem dmake_46 : decode method_4_code 46 = .ok (.iconst 2, 1) := by decide +kernel
theorem dmake_47 : decode method_4_code 47 = .ok (.newarray .char, 2) := by decide +kernel
theorem dmake_49 : decode method_4_code 49 = .ok (.dup, 1) := by decide +kernel
theorem dmake_50 : decode method_4_code 50 = .ok (.iconst 0, 1) := by decide +kernel
theorem dmake_51 : decode method_4_code 51 = .ok (.aload_n 1, 1) := by decide +kernel
theorem dmake_52 : decode method_4_code 52 = .ok (.iconst 0, 1) := by decide +kernel
theorem dmake_53 : decode method_4_code 53 = .ok (.caload, 1) := by decide +kernel
theorem dmake_54 : decode method_4_code 54 = .ok (.castore, 1) := by decide +kernel
theorem dmake_55 : decode method_4_code 55 = .ok (.dup, 1) := by decide +kernel
theorem dmake_56 : decode method_4_code 56 = .ok (.iconst 1, 1) := by decide +kernel
theorem dmake_57 : decode method_4_code 57 = .ok (.aload_n 1, 1) := by decide +kernel
theorem dmake_58 : decode method_4_code 58 = .ok (.iconst 1, 1) := by decide +kernel
theorem dmake_59 : decode method_4_code 59 = .ok (.caload, 1) := by decide +kernel
theorem dmake_60 : decode method_4_code 60 = .ok (.castore, 1) := by decide +kernel
theorem dmake_61 : decode method_4_code 61 = .ok (.invokespecial 31, 3) := by decide +kernel
theorem dmake_64 : decode method_4_code 64 = .ok (.areturn, 1) := by decide +kernel
theorem dmake_65 : decode method_4_code 65 = .ok (.iload_n 0, 1) := by decide +kernel
theorem dmake_66 : decode method_4_code 66 = .ok (.iconst 3, 1) := by decide +kernel
theorem dmake_67 : decode method_4_code 67 = .ok (.if_icmp .ne 32, 3) := by decide +kernel
theorem dmake_70 : decode method_4_code 70 = .ok (.new 29, 3) := by decide +kernel
theorem dmake_73 : decode method_4_code 73 = .ok (.dup, 1) := by decide +kernel
theorem dmake_74 : decode method_4_code 74 = .ok (.iconst 3, 1) := by decide +kernel
theorem dmake_75 : decode method_4_code 75 = .ok (.newarray .char, 2) := by decide +kernel
theorem dmake_77 : decode method_4_code 77 = .ok (.dup, 1) := by decide +kernel
theorem dmake_78 : decode method_4_code 78 = .ok (.iconst 0, 1) := by decide +kernel
theorem dmake_79 : decode method_4_code 79 = .ok (.aload_n 1, 1) := by decide +kernel
theorem dmake_80 : decode method_4_code 80 = .ok (.iconst 0, 1) := by decide +kernel
theorem dmake_81 : decode method_4_code 81 = .ok (.caload, 1) := by decide +kernel
theorem dmake_82 : decode method_4_code 82 = .ok (.castore, 1) := by decide +kernel
theorem dmake_83 : decode method_4_code 83 = .ok (.dup, 1) := by decide +kernel
theorem dmake_84 : decode method_4_code 84 = .ok (.iconst 1, 1) := by decide +kernel
theorem dmake_85 : decode method_4_code 85 = .ok (.aload_n 1, 1) := by decide +kernel
theorem dmake_86 : decode method_4_code 86 = .ok (.iconst 1, 1) := by decide +kernel
theorem dmake_87 : decode method_4_code 87 = .ok (.caload, 1) := by decide +kernel
theorem dmake_88 : decode method_4_code 88 = .ok (.castore, 1) := by decide +kernel
theorem dmake_89 : decode method_4_code 89 = .ok (.dup, 1) := by decide +kernel
theorem dmake_90 : decode method_4_code 90 = .ok (.iconst 2, 1) := by decide +kernel
theorem dmake_91 : decode method_4_code 91 = .ok (.aload_n 1, 1) := by decide +kernel
theorem dmake_92 : decode method_4_code 92 = .ok (.iconst 2, 1) := by decide +kernel
theorem dmake_93 : decode method_4_code 93 = .ok (.caload, 1) := by decide +kernel
theorem dmake_94 : decode method_4_code 94 = .ok (.castore, 1) := by decide +kernel
theorem dmake_95 : decode method_4_code 95 = .ok (.invokespecial 31, 3) := by decide +kernel
theorem dmake_98 : decode method_4_code 98 = .ok (.areturn, 1) := by decide +kernel
theorem dmake_99 : decode method_4_code 99 = .ok (.iload_n 0, 1) := by decide +kernel
theorem dmake_100 : decode method_4_code 100 = .ok (.iconst 4, 1) := by decide +kernel
theorem dmake_101 : decode method_4_code 101 = .ok (.if_icmp .ne 38, 3) := by decide +kernel
theorem dmake_104 : decode method_4_code 104 = .ok (.new 29, 3) := by decide +kernel
theorem dmake_107 : decode method_4_code 107 = .ok (.dup, 1) := by decide +kernel
theorem dmake_108 : decode method_4_code 108 = .ok (.iconst 4, 1) := by decide +kernel
theorem dmake_109 : decode method_4_code 109 = .ok (.newarray .char, 2) := by decide +kernel
theorem dmake_111 : decode method_4_code 111 = .ok (.dup, 1) := by decide +kernel
theorem dmake_112 : decode method_4_code 112 = .ok (.iconst 0, 1) := by decide +kernel
theorem dmake_113 : decode method_4_code 113 = .ok (.aload_n 1, 1) := by decide +kernel
theorem dmake_114 : decode method_4_code 114 = .ok (.iconst 0, 1) := by decide +kernel
theorem dmake_115 : decode method_4_code 115 = .ok (.caload, 1) := by decide +kernel
theorem dmake_116 : decode method_4_code 116 = .ok (.castore, 1) := by decide +kernel
theorem dmake_117 : decode method_4_code 117 = .ok (.dup, 1) := by decide +kernel
theorem dmake_118 : decode method_4_code 118 = .ok (.iconst 1, 1) := by decide +kernel
theorem dmake_119 : decode method_4_code 119 = .ok (.aload_n 1, 1) := by decide +kernel
theorem dmake_120 : decode method_4_code 120 = .ok (.iconst 1, 1) := by decide +kernel
theorem dmake_121 : decode method_4_code 121 = .ok (.caload, 1) := by decide +kernel
theorem dmake_122 : decode method_4_code 122 = .ok (.castore, 1) := by decide +kernel
theorem dmake_123 : decode method_4_code 123 = .ok (.dup, 1) := by decide +kernel
theorem dmake_124 : decode method_4_code 124 = .ok (.iconst 2, 1) := by decide +kernel
theorem dmake_125 : decode method_4_code 125 = .ok (.aload_n 1, 1) := by decide +kernel
theorem dmake_126 : decode method_4_code 126 = .ok (.iconst 2, 1) := by decide +kernel
theorem dmake_127 : decode method_4_code 127 = .ok (.caload, 1) := by decide +kernel
theorem dmake_128 : decode method_4_code 128 = .ok (.castore, 1) := by decide +kernel
theorem dmake_129 : decode method_4_code 129 = .ok (.dup, 1) := by decide +kernel
theorem dmake_130 : decode method_4_code 130 = .ok (.iconst 3, 1) := by decide +kernel
theorem dmake_131 : decode method_4_code 131 = .ok (.aload_n 1, 1) := by decide +kernel
theorem dmake_132 : decode method_4_code 132 = .ok (.iconst 3, 1) := by decide +kernel
theorem dmake_133 : decode method_4_code 133 = .ok (.caload, 1) := by decide +kernel
theorem dmake_134 : decode method_4_code 134 = .ok (.castore, 1) := by decide +kernel
theorem dmake_135 : decode method_4_code 135 = .ok (.invokespecial 31, 3) := by decide +kernel
theorem dmake_138 : decode method_4_code 138 = .ok (.areturn, 1) := by decide +kernel
theorem dmake_139 : decode method_4_code 139 = .ok (.new 29, 3) := by decide +kernel
theorem dmake_142 : decode method_4_code 142 = .ok (.dup, 1) := by decide +kernel
theorem dmake_143 : decode method_4_code 143 = .ok (.iconst 5, 1) := by decide +kernel
theorem dmake_144 : decode method_4_code 144 = .ok (.newarray .char, 2) := by decide +kernel
theorem dmake_146 : decode method_4_code 146 = .ok (.dup, 1) := by decide +kernel
theorem dmake_147 : decode method_4_code 147 = .ok (.iconst 0, 1) := by decide +kernel
theorem dmake_148 : decode method_4_code 148 = .ok (.aload_n 1, 1) := by decide +kernel
theorem dmake_149 : decode method_4_code 149 = .ok (.iconst 0, 1) := by decide +kernel
theorem dmake_150 : decode method_4_code 150 = .ok (.caload, 1) := by decide +kernel
theorem dmake_151 : decode method_4_code 151 = .ok (.castore, 1) := by decide +kernel
theorem dmake_152 : decode method_4_code 152 = .ok (.dup, 1) := by decide +kernel
theorem dmake_153 : decode method_4_code 153 = .ok (.iconst 1, 1) := by decide +kernel
theorem dmake_154 : decode method_4_code 154 = .ok (.aload_n 1, 1) := by decide +kernel
theorem dmake_155 : decode method_4_code 155 = .ok (.iconst 1, 1) := by decide +kernel
theorem dmake_156 : decode method_4_code 156 = .ok (.caload, 1) := by decide +kernel
theorem dmake_157 : decode method_4_code 157 = .ok (.castore, 1) := by decide +kernel
theorem dmake_158 : decode method_4_code 158 = .ok (.dup, 1) := by decide +kernel
theorem dmake_159 : decode method_4_code 159 = .ok (.iconst 2, 1) := by decide +kernel
theorem dmake_160 : decode method_4_code 160 = .ok (.aload_n 1, 1) := by decide +kernel
theorem dmake_161 : decode method_4_code 161 = .ok (.iconst 2, 1) := by decide +kernel
theorem dmake_162 : decode method_4_code 162 = .ok (.caload, 1) := by decide +kernel
theorem dmake_163 : decode method_4_code 163 = .ok (.castore, 1) := by decide +kernel
theorem dmake_164 : decode method_4_code 164 = .ok (.dup, 1) := by decide +kernel
theorem dmake_165 : decode method_4_code 165 = .ok (.iconst 3, 1) := by decide +kernel
theorem dmake_166 : decode method_4_code 166 = .ok (.aload_n 1, 1) := by decide +kernel
theorem dmake_167 : decode method_4_code 167 = .ok (.iconst 3, 1) := by decide +kernel
theorem dmake_168 : decode method_4_code 168 = .ok (.caload, 1) := by decide +kernel
theorem dmake_169 : decode method_4_code 169 = .ok (.castore, 1) := by decide +kernel
theorem dmake_170 : decode method_4_code 170 = .ok (.dup, 1) := by decide +kernel
theorem dmake_171 : decode method_4_code 171 = .ok (.iconst 4, 1) := by decide +kernel
theorem dmake_172 : decode method_4_code 172 = .ok (.aload_n 1, 1) := by decide +kernel
theorem dmake_173 : decode method_4_code 173 = .ok (.iconst 4, 1) := by decide +kernel
theorem dmake_174 : decode method_4_code 174 = .ok (.caload, 1) := by decide +kernel
theorem dmake_175 : decode method_4_code 175 = .ok (.castore, 1) := by decide +kernel
theorem dmake_176 : decode method_4_code 176 = .ok (.invokespecial 31, 3) := by decide +kernel
theorem dmake_179 : decode method_4_code 179 = .ok (.areturn, 1) := by decide +kernel
abbrev bmake : wkB := (⟨"com/example/vestline/vestline/input/SurrogatesFindUnpairedPinLaw", "make", "(I[C)Ljava/lang/String;"⟩, method_4_code, 2, (some (.object "java/lang/String")))
theorem dupA_0 : decode method_7_code 0 = .ok (.iload_n 2, 1) := by decide +kernel
theorem dupA_1 : decode method_7_code 1 = .ok (.iload_n 1, 1) := by decide +kernel
theorem dupA_2 : decode method_7_code 2 = .ok (.if_icmp .lt 5, 3) := by decide +kernel
theorem dupA_5 : decode method_7_code 5 = .ok (.iconst 0, 1) := by decide +kernel
theorem dupA_6 : decode method_7_code 6 = .ok (.ireturn, 1) := by decide +kernel
theorem dupA_7 : decode method_7_code 7 = .ok (.aload_n 0, 1) := by decide +kernel
theorem dupA_8 : decode method_7_code 8 = .ok (.iload_n 2, 1) := by decide +kernel
theorem dupA_9 : decode method_7_code 9 = .ok (.caload, 1) := by decide +kernel
theorem dupA_10 : decode method_7_code 10 = .ok (.istore_n 3, 1) := by decide +kernel
theorem dupA_11 : decode method_7_code 11 = .ok (.iload_n 3, 1) := by decide +kernel
theorem dupA_12 : decode method_7_code 12 = .ok (.invokestatic 36, 3) := by decide +kernel
theorem dupA_15 : decode method_7_code 15 = .ok (.ifCond .eq 27, 3) := by decide +kernel
theorem dupA_18 : decode method_7_code 18 = .ok (.iload_n 2, 1) := by decide +kernel
theorem dupA_19 : decode method_7_code 19 = .ok (.iconst 1, 1) := by decide +kernel
theorem dupA_20 : decode method_7_code 20 = .ok (.iadd, 1) := by decide +kernel
theorem dupA_21 : decode method_7_code 21 = .ok (.iload_n 1, 1) := by decide +kernel
theorem dupA_22 : decode method_7_code 22 = .ok (.if_icmp .ge 14, 3) := by decide +kernel
theorem dupA_25 : decode method_7_code 25 = .ok (.aload_n 0, 1) := by decide +kernel
theorem dupA_26 : decode method_7_code 26 = .ok (.iload_n 2, 1) := by decide +kernel
theorem dupA_27 : decode method_7_code 27 = .ok (.iconst 1, 1) := by decide +kernel
theorem dupA_28 : decode method_7_code 28 = .ok (.iadd, 1) := by decide +kernel
theorem dupA_29 : decode method_7_code 29 = .ok (.caload, 1) := by decide +kernel
theorem dupA_30 : decode method_7_code 30 = .ok (.invokestatic 40, 3) := by decide +kernel
theorem dupA_33 : decode method_7_code 33 = .ok (.ifCond .ne 7, 3) := by decide +kernel
theorem dupA_36 : decode method_7_code 36 = .ok (.iconst 1, 1) := by decide +kernel
theorem dupA_37 : decode method_7_code 37 = .ok (.goto 4, 3) := by decide +kernel
theorem dupA_40 : decode method_7_code 40 = .ok (.iconst 0, 1) := by decide +kernel
theorem dupA_41 : decode method_7_code 41 = .ok (.ireturn, 1) := by decide +kernel
theorem dupA_42 : decode method_7_code 42 = .ok (.iload_n 3, 1) := by decide +kernel
theorem dupA_43 : decode method_7_code 43 = .ok (.invokestatic 40, 3) := by decide +kernel
theorem dupA_46 : decode method_7_code 46 = .ok (.ifCond .eq 24, 3) := by decide +kernel
theorem dupA_49 : decode method_7_code 49 = .ok (.iload_n 2, 1) := by decide +kernel
theorem dupA_50 : decode method_7_code 50 = .ok (.ifCond .le 14, 3) := by decide +kernel
theorem dupA_53 : decode method_7_code 53 = .ok (.aload_n 0, 1) := by decide +kernel
theorem dupA_54 : decode method_7_code 54 = .ok (.iload_n 2, 1) := by decide +kernel
theorem dupA_55 : decode method_7_code 55 = .ok (.iconst 1, 1) := by decide +kernel
theorem dupA_56 : decode method_7_code 56 = .ok (.isub, 1) := by decide +kernel
theorem dupA_57 : decode method_7_code 57 = .ok (.caload, 1) := by decide +kernel
theorem dupA_58 : decode method_7_code 58 = .ok (.invokestatic 36, 3) := by decide +kernel
theorem dupA_61 : decode method_7_code 61 = .ok (.ifCond .ne 7, 3) := by decide +kernel
theorem dupA_64 : decode method_7_code 64 = .ok (.iconst 1, 1) := by decide +kernel
theorem dupA_65 : decode method_7_code 65 = .ok (.goto 4, 3) := by decide +kernel
theorem dupA_68 : decode method_7_code 68 = .ok (.iconst 0, 1) := by decide +kernel
theorem dupA_69 : decode method_7_code 69 = .ok (.ireturn, 1) := by decide +kernel
theorem dupA_70 : decode method_7_code 70 = .ok (.iconst 0, 1) := by decide +kernel
theorem dupA_71 : decode method_7_code 71 = .ok (.ireturn, 1) := by decide +kernel
abbrev bupA : wkB := (⟨"com/example/vestline/vestline/input/SurrogatesFindUnpairedPinLaw", "unpairedAt", "([CII)Z"⟩, method_7_code, 4, (some .boolean))
theorem dfUn_0 : decode prog_29_method_2_code 0 = .ok (.iconst 0, 1) := by decide +kernel
theorem dfUn_1 : decode prog_29_method_2_code 1 = .ok (.istore_n 1, 1) := by decide +kernel
theorem dfUn_2 : decode prog_29_method_2_code 2 = .ok (.iload_n 1, 1) := by decide +kernel
theorem dfUn_3 : decode prog_29_method_2_code 3 = .ok (.aload_n 0, 1) := by decide +kernel
theorem dfUn_4 : decode prog_29_method_2_code 4 = .ok (.invokevirtual 7, 3) := by decide +kernel
theorem dfUn_7 : decode prog_29_method_2_code 7 = .ok (.if_icmp .ge 60, 3) := by decide +kernel
theorem dfUn_10 : decode prog_29_method_2_code 10 = .ok (.aload_n 0, 1) := by decide +kernel
theorem dfUn_11 : decode prog_29_method_2_code 11 = .ok (.iload_n 1, 1) := by decide +kernel
theorem dfUn_12 : decode prog_29_method_2_code 12 = .ok (.invokevirtual 13, 3) := by decide +kernel
theorem dfUn_15 : decode prog_29_method_2_code 15 = .ok (.istore_n 2, 1) := by decide +kernel
theorem dfUn_16 : decode prog_29_method_2_code 16 = .ok (.iload_n 2, 1) := by decide +kernel
theorem dfUn_17 : decode prog_29_method_2_code 17 = .ok (.invokestatic 17, 3) := by decide +kernel
theorem dfUn_20 : decode prog_29_method_2_code 20 = .ok (.ifCond .eq 32, 3) := by decide +kernel
theorem dfUn_23 : decode prog_29_method_2_code 23 = .ok (.iload_n 1, 1) := by decide +kernel
theorem dfUn_24 : decode prog_29_method_2_code 24 = .ok (.iconst 1, 1) := by decide +kernel
theorem dfUn_25 : decode prog_29_method_2_code 25 = .ok (.iadd, 1) := by decide +kernel
theorem dfUn_26 : decode prog_29_method_2_code 26 = .ok (.aload_n 0, 1) := by decide +kernel
theorem dfUn_27 : decode prog_29_method_2_code 27 = .ok (.invokevirtual 7, 3) := by decide +kernel
theorem dfUn_30 : decode prog_29_method_2_code 30 = .ok (.if_icmp .ge 22, 3) := by decide +kernel
theorem dfUn_33 : decode prog_29_method_2_code 33 = .ok (.aload_n 0, 1) := by decide +kernel
theorem dfUn_34 : decode prog_29_method_2_code 34 = .ok (.iload_n 1, 1) := by decide +kernel
theorem dfUn_35 : decode prog_29_method_2_code 35 = .ok (.iconst 1, 1) := by decide +kernel
theorem dfUn_36 : decode prog_29_method_2_code 36 = .ok (.iadd, 1) := by decide +kernel
theorem dfUn_37 : decode prog_29_method_2_code 37 = .ok (.invokevirtual 13, 3) := by decide +kernel
theorem dfUn_40 : decode prog_29_method_2_code 40 = .ok (.invokestatic 23, 3) := by decide +kernel
theorem dfUn_43 : decode prog_29_method_2_code 43 = .ok (.ifCond .eq 9, 3) := by decide +kernel
theorem dfUn_46 : decode prog_29_method_2_code 46 = .ok (.iinc 1 2, 3) := by decide +kernel
theorem dfUn_49 : decode prog_29_method_2_code 49 = .ok (.goto 15, 3) := by decide +kernel
theorem dfUn_52 : decode prog_29_method_2_code 52 = .ok (.iload_n 2, 1) := by decide +kernel
theorem dfUn_53 : decode prog_29_method_2_code 53 = .ok (.invokestatic 26, 3) := by decide +kernel
theorem dfUn_56 : decode prog_29_method_2_code 56 = .ok (.ifCond .eq 5, 3) := by decide +kernel
theorem dfUn_59 : decode prog_29_method_2_code 59 = .ok (.iload_n 1, 1) := by decide +kernel
theorem dfUn_60 : decode prog_29_method_2_code 60 = .ok (.ireturn, 1) := by decide +kernel
theorem dfUn_61 : decode prog_29_method_2_code 61 = .ok (.iinc 1 1, 3) := by decide +kernel
theorem dfUn_64 : decode prog_29_method_2_code 64 = .ok (.goto (-62), 3) := by decide +kernel
theorem dfUn_67 : decode prog_29_method_2_code 67 = .ok (.iconst (-1), 1) := by decide +kernel
theorem dfUn_68 : decode prog_29_method_2_code 68 = .ok (.ireturn, 1) := by decide +kernel
abbrev bfUn : wkB := (⟨"com/example/vestline/vestline/input/Surrogates", "findUnpaired", "(Ljava/lang/String;)I"⟩, prog_29_method_2_code, 3, (some .int))
abbrev blaw : wkB := (⟨"com/example/vestline/vestline/input/SurrogatesFindUnpairedPinLaw", "law", "(IIIIII)Z"⟩, code, 10, (some .boolean))
theorem sAtoms {Z : State} {a0 : Array Value} (hw : ∀ d ∈ tables_1, d.before a0 Z = true) : ∀ a ∈ Bundle.stringAtoms, a.before a0 Z = true := by
  intro a ha
  simp only [Bundle.stringAtoms, List.mem_cons, List.not_mem_nil, or_false] at ha
  rcases ha with rfl | rfl | rfl | rfl | rfl | rfl | rfl
  · exact (w10 hw)
  · exact (w9 hw)
  · exact (w22 hw)
  · exact (w23 hw)
  · exact (w24 hw)
  · exact (w25 hw)
  · exact (w26 hw)
abbrev rcmp5 : Room := { frames := 0, cells := 0, slots := 0, locals := 0 }
/-- compress: the chars below 256 go over, up to the first that isn't -/
def Qcmp5 (Z : State) (d : Addr) (cs : List Int32) (v : Option Value) (h' : Heap) (os : List Addr) : Prop := ∃ (i : Nat) (ys : List Int32), i ≤ cs.length ∧ v = some (.int (Int32.ofNat i)) ∧ os = [] ∧ Ia Z h' d .byte ys ∧ ys.length = cs.length ∧ (∀ j, j < i → ∃ c, cs[j]? = some c ∧ ¬ 255 < c ∧ ys[j]? = some (lo8 c)) ∧ (i < cs.length → ∃ c, cs[i]? = some c ∧ 255 < c)
set_option maxRecDepth 65536 in
set_option maxHeartbeats 4000000 in
theorem L_cmp5 (l : Launch) (Z : State) (a0 : Array Value) (g : G Z a0) (hs : Heap) (b d : Addr) (cs : List Int32) (hbd : @Ne Nat b d) (hl31 : cs.length < 2 ^ 31) : ∀ (r i : Nat) (h : Heap) (ds : List Int32) (o6 : Slot), One o6 → i + r = cs.length → Ia Z h b .char cs → Ia Z h d .byte ds → ds.length = cs.length → (∀ j, j < i → ∃ c, cs[j]? = some c ∧ ¬ 255 < c ∧ ds[j]? = some (lo8 c)) →
    wkP l Z bcmp5 rcmp5 hs [d] (Qcmp5 Z d cs) [d] h 0 0 3 #[.val (.ref b), .val (.int (Int32.ofNat i)), .val (.ref d), .val (.int (Int32.ofNat i)), .val (.int (Int32.ofNat cs.length)), .val (.int (Int32.ofNat i)), o6] [] := by
  intro r
  induction r with
  | zero =>
    intro i h ds o6 ho6 hir F D hds hj
    have hi31 : i < 2 ^ 31 := by omega
    refine wkP.iload 5 dcmp5_3 rfl rfl ?_
    refine wkP.iload 7 dcmp5_5 rfl rfl ?_
    refine wkP.icmpT 44 dcmp5_7 (show ¬ (Int32.ofNat i) < (Int32.ofNat cs.length) from (by rw [ofNat_lt hi31 hl31]; omega)) (by decide) (by decide) ?_
    refine wkP.iload 46 dcmp5_44 rfl rfl ?_
    exact wkP.retI .int [] g.2.1 dcmp5_46 rfl (by simp) rfl (by decide) (by decide) (by simp) ⟨i, ds, by omega, by rw [show cs.length = i by omega], rfl, D, hds, hj, fun q => absurd q (by omega)⟩
  | succ r ih =>
    intro i h ds o6 ho6 hir F D hds hj
    have hi31 : i < 2 ^ 31 := by omega
    refine wkP.iload 5 dcmp5_3 rfl rfl ?_
    refine wkP.iload 7 dcmp5_5 rfl rfl ?_
    refine wkP.icmpF 10 dcmp5_7 (show ¬ (¬ (Int32.ofNat i) < (Int32.ofNat cs.length)) from (fun q => q ((ofNat_lt hi31 hl31).mpr (by omega)))) rfl ?_
    refine wkP.aloadN 11 dcmp5_10 rfl rfl rfl ?_
    refine wkP.iloadN 12 dcmp5_11 rfl rfl ?_
    obtain ⟨c, hc⟩ : ∃ c, cs[i]? = some c := ⟨_, List.getElem?_eq_getElem (show i < cs.length by omega)⟩
    refine wkP.caload 13 i c F dcmp5_12 (toI hi31) hc rfl ?_
    refine wkP.istore 15 #[.val (.ref b), .val (.int (Int32.ofNat i)), .val (.ref d), .val (.int (Int32.ofNat i)), .val (.int (Int32.ofNat cs.length)), .val (.int (Int32.ofNat i)), .val (.int c)] dcmp5_13 (XS.store1 rfl ho6 rfl) rfl ?_
    refine wkP.iload 17 dcmp5_15 rfl rfl ?_
    refine wkP.sipush 20 (255 : Int32) dcmp5_17 rfl rfl ?_
    by_cases hq : (255 : Int32) < c
    · refine wkP.icmpF 23 dcmp5_20 (show ¬ (¬ (255 : Int32) < c) from (fun q => q hq)) rfl ?_
      refine wkP.iload 25 dcmp5_23 rfl rfl ?_
      exact wkP.retI .int [] g.2.1 dcmp5_25 rfl (by simp) rfl (by decide) (by decide) (by simp) ⟨i, ds, by omega, rfl, rfl, D, hds, hj, fun _ => ⟨c, hc, hq⟩⟩
    · refine wkP.icmpT 26 dcmp5_20 (show ¬ (255 : Int32) < c from hq) (by decide) (by decide) ?_
      refine wkP.aloadN 27 dcmp5_26 rfl rfl rfl ?_
      refine wkP.iloadN 28 dcmp5_27 rfl rfl ?_
      refine wkP.iload 30 dcmp5_28 rfl rfl ?_
      refine wkP.i2b 31 (lo8 c) dcmp5_30 rfl rfl ?_
      refine wkP.stB 32 i (lo8 c) D dcmp5_31 (toI hi31) (by omega) (nar_lo8 c) (by simp) rfl ?_
      intro h1 K1 A1
      refine wkP.iinc 35 (Int32.ofNat (i + 1)) #[.val (.ref b), .val (.int (Int32.ofNat (i + 1))), .val (.ref d), .val (.int (Int32.ofNat i)), .val (.int (Int32.ofNat cs.length)), .val (.int (Int32.ofNat i)), .val (.int c)] dcmp5_32 rfl (inc1 i) rfl rfl ?_
      refine wkP.iinc 38 (Int32.ofNat (i + 1)) #[.val (.ref b), .val (.int (Int32.ofNat (i + 1))), .val (.ref d), .val (.int (Int32.ofNat (i + 1))), .val (.int (Int32.ofNat cs.length)), .val (.int (Int32.ofNat i)), .val (.int c)] dcmp5_35 rfl (inc1 i) rfl rfl ?_
      refine wkP.iinc 41 (Int32.ofNat (i + 1)) #[.val (.ref b), .val (.int (Int32.ofNat (i + 1))), .val (.ref d), .val (.int (Int32.ofNat (i + 1))), .val (.int (Int32.ofNat cs.length)), .val (.int (Int32.ofNat (i + 1))), .val (.int c)] dcmp5_38 rfl (inc1 i) rfl rfl ?_
      refine wkP.goto 3 dcmp5_41 (by decide) (by decide) ?_
      refine ih (i + 1) h1 (ds.set i (lo8 c)) _ (One.val rfl) (by omega) (F.keep K1 (nn1 hbd)) A1 (by simpa using hds) ?_
      intro j hj1
      by_cases hji : j = i
      · subst hji; exact ⟨c, hc, hq, by simp [show j < ds.length by omega]⟩
      · obtain ⟨c', q1, q2, q3⟩ := hj j (by omega); exact ⟨c', q1, q2, by rw [List.getElem?_set_ne (Ne.symm hji)]; exact q3⟩
set_option maxRecDepth 65536 in
set_option maxHeartbeats 4000000 in
theorem M_cmp5 (l : Launch) (Z : State) (a0 : Array Value) (g : G Z a0) (h : Heap) (b d : Addr) (cs ds : List Int32) (F : Ia Z h b .char cs) (D : Ia Z h d .byte ds) (hl : ds.length = cs.length) : wkM l Z bcmp5 rcmp5 #[.ref b, .int 0, .ref d, .int 0, .int (Int32.ofNat cs.length)] h [d] (Qcmp5 Z d cs) := by
  refine wkM.of #[.val (.ref b), .val (.int (0 : Int32)), .val (.ref d), .val (.int (0 : Int32)), .val (.int (Int32.ofNat cs.length)), .unset, .unset] (plainFor_of_name (by first | (simp [plainName, overriddenIn]; done) | decide +kernel)) (fun m => by first | rfl | (simp [entryFrame, mkF, argsToLocals, Value.category]; done)) ?_
  refine wkP.iconst 1 (0 : Int32) dcmp5_0 rfl rfl ?_
  refine wkP.istore 3 #[.val (.ref b), .val (.int (0 : Int32)), .val (.ref d), .val (.int (0 : Int32)), .val (.int (Int32.ofNat cs.length)), .val (.int (0 : Int32)), .unset] dcmp5_1 rfl rfl ?_
  exact L_cmp5 l Z a0 g h b d cs (F.ne D (by decide)) F.len cs.length 0 h ds .unset One.u (by omega) F D hl (fun j hj => absurd hj (by omega))
abbrev rcodL : Room := { frames := 0, cells := 0, slots := 0, locals := 0 }
set_option maxRecDepth 65536 in
set_option maxHeartbeats 4000000 in
theorem M_codL (l : Launch) (Z : State) (a0 : Array Value) (g : G Z a0) (h : Heap) (b : Addr) (ys : List Int32) (n : Nat) (F : Ia Z h b .byte ys) (hn : ys.length = n) : wkM l Z bcodL rcodL #[.ref b, .int (Int32.ofNat n)] h [] (fun v h' os => v = some (.int 0) ∧ os = [] ∧ h = h') := by
  refine wkM.of #[.val (.ref b), .val (.int (Int32.ofNat n))] (plainFor_of_name (by first | (simp [plainName, overriddenIn]; done) | decide +kernel)) (fun m => by first | rfl | (simp [entryFrame, mkF, argsToLocals, Value.category]; done)) ?_
  refine wkP.iloadN 1 dcodL_0 rfl rfl ?_
  refine wkP.aloadN 2 dcodL_1 rfl rfl rfl ?_
  refine wkP.alen 3 (Int32.ofNat n) F dcodL_2 (by rw [hn]) rfl ?_
  refine wkP.isub 4 (0 : Int32) dcodL_3 (by simp) rfl ?_
  refine wkP.bipush 6 (31 : Int32) dcodL_4 rfl rfl ?_
  refine wkP.iushr 7 (0 : Int32) dcodL_6 (by decide) rfl ?_
  refine wkP.i2b 8 (0 : Int32) dcodL_7 (by decide) rfl ?_
  exact wkP.retI .byte [] g.2.1 dcodL_8 rfl (by simp) rfl (by decide) (by decide) (by simp) ⟨rfl, rfl, rfl⟩
theorem sub2 {n : Nat} (h : 2 * n < 2 ^ 31) : Int32.ofNat n - Int32.ofNat (2 * n) = -(Int32.ofNat n) := by
  have h1 := c_isub (Int32.ofNat n) (Int32.ofNat (2 * n))
  have h2 := c_ineg (Int32.ofNat n)
  have h3 := rng32 (Int32.ofNat n - Int32.ofNat (2 * n))
  have h4 := rng32 (-(Int32.ofNat n))
  rw [toI h, toI (show n < 2 ^ 31 by omega)] at h1
  rw [toI (show n < 2 ^ 31 by omega)] at h2
  rw [← Int32.toInt_inj]; omega
theorem neg31 {n : Nat} (h : 2 * n < 2 ^ 31) (h0 : n ≠ 0) : ((-(Int32.ofNat n)).toUInt32 >>> ((31 : Int32) &&& 31).toUInt32).toInt32 = 1 := by
  have h1 : (((-(Int32.ofNat n)).toUInt32 >>> ((31 : Int32) &&& 31).toUInt32).toInt32).toInt = ((-(Int32.ofNat n)).toInt % 4294967296) / 2147483648 := c_iushr (-(Int32.ofNat n)) 31 31 (by decide) (by decide)
  have h2 := c_ineg (Int32.ofNat n)
  have h4 := rng32 (-(Int32.ofNat n))
  rw [toI (show n < 2 ^ 31 by omega)] at h2
  rw [← Int32.toInt_inj, h1, show (1 : Int32).toInt = 1 from rfl]; omega
set_option maxRecDepth 65536 in
set_option maxHeartbeats 4000000 in
theorem M_codU (l : Launch) (Z : State) (a0 : Array Value) (g : G Z a0) (h : Heap) (b : Addr) (ys : List Int32) (n : Nat) (F : Ia Z h b .byte ys) (hn : ys.length = 2 * n) (h0 : n ≠ 0) : wkM l Z bcodL rcodL #[.ref b, .int (Int32.ofNat n)] h [] (fun v h' os => v = some (.int 1) ∧ os = [] ∧ h = h') := by
  refine wkM.of #[.val (.ref b), .val (.int (Int32.ofNat n))] (plainFor_of_name (by first | (simp [plainName, overriddenIn]; done) | decide +kernel)) (fun m => by first | rfl | (simp [entryFrame, mkF, argsToLocals, Value.category]; done)) ?_
  refine wkP.iloadN 1 dcodL_0 rfl rfl ?_
  refine wkP.aloadN 2 dcodL_1 rfl rfl rfl ?_
  refine wkP.alen 3 (Int32.ofNat (2 * n)) F dcodL_2 (by rw [hn]) rfl ?_
  refine wkP.isub 4 (-(Int32.ofNat n)) dcodL_3 (sub2 (by have := F.len; omega)) rfl ?_
  refine wkP.bipush 6 (31 : Int32) dcodL_4 rfl rfl ?_
  refine wkP.iushr 7 (1 : Int32) dcodL_6 (neg31 (by have := F.len; omega) h0) rfl ?_
  refine wkP.i2b 8 (1 : Int32) dcodL_7 (by decide) rfl ?_
  exact wkP.retI .byte [] g.2.1 dcodL_8 rfl (by simp) rfl (by decide) (by decide) (by simp) ⟨rfl, rfl, rfl⟩
abbrev rnbl : Room := { frames := 0, cells := 0, slots := 0, locals := 0 }
set_option maxRecDepth 65536 in
set_option maxHeartbeats 4000000 in
theorem M_nbl (l : Launch) (Z : State) (a0 : Array Value) (g : G Z a0) (h : Heap) (n : Nat) (hn : n < 1000000) : wkM l Z bnbl rnbl #[.int (Int32.ofNat n)] h [] (fun v h' os => v = some (.int (Int32.ofNat (2 * n))) ∧ os = [] ∧ h = h') := by
  refine wkM.of #[.val (.int (Int32.ofNat n))] (plainFor_of_name (by first | (simp [plainName, overriddenIn]; done) | decide +kernel)) (fun m => by first | rfl | (simp [entryFrame, mkF, argsToLocals, Value.category]; done)) ?_
  refine wkP.iloadN 1 dnbl_0 rfl rfl ?_
  refine wkP.ifT 12 dnbl_1 (show ¬ (Int32.ofNat n) < (0 : Int32) from (nn_of (by omega))) (by decide) (by decide) ?_
  refine wkP.iloadN 13 dnbl_12 rfl rfl ?_
  refine wkP.ldcI 15 (w104 g.1) dnbl_13 rfl ?_
  refine wkP.icmpT 55 dnbl_15 (show (Int32.ofNat n) < (1073741823 : Int32) from (by rw [Int32.lt_iff_toInt_lt, toI (show n < 2 ^ 31 by omega)]; simp only [Int32.reduceToInt]; omega)) (by decide) (by decide) ?_
  refine wkP.iloadN 56 dnbl_55 rfl rfl ?_
  refine wkP.iconst 57 (1 : Int32) dnbl_56 rfl rfl ?_
  refine wkP.ishl 58 (Int32.ofNat (2 * n)) dnbl_57 (shl1 (by omega)) rfl ?_
  exact wkP.retI .int [] g.2.1 dnbl_58 rfl (by simp) rfl (by decide) (by decide) (by simp) ⟨rfl, rfl, rfl⟩
abbrev rnbf : Room := { frames := 1, cells := 1, slots := 10, locals := 12 }
set_option maxRecDepth 65536 in
set_option maxHeartbeats 4000000 in
theorem M_nbf (l : Launch) (Z : State) (a0 : Array Value) (g : G Z a0) (h : Heap) (n : Nat) (hn : n ≤ 5) : wkM l Z bnbf rnbf #[.int (Int32.ofNat n)] h [] (fun v h' os => ∃ d, v = some (.ref d) ∧ h.size ≤ d ∧ os = [d] ∧ Ia Z h' d .byte (List.replicate (2 * n) 0)) := by
  refine wkM.of #[.val (.int (Int32.ofNat n))] (plainFor_of_name (by first | (simp [plainName, overriddenIn]; done) | decide +kernel)) (fun m => by first | rfl | (simp [entryFrame, mkF, argsToLocals, Value.category]; done)) ?_
  refine wkP.iloadN 1 dnbf_0 rfl rfl ?_
  refine wkP.callS 4 (M_nbl l Z a0 g _ n (by omega)) [(.int (Int32.ofNat n))] [] 0 g.2.1 (w101 g.1) (w102 g.1) (w49 g.1) (w103 g.1) (by decide) dnbf_1 (lenOf pd0 rfl) rfl rfl rfl (by simp) (Nat.le_of_eq rfl) (by decide) (by decide) (by decide) (by decide) rfl ?_
  rintro v2 _ o2 ⟨rfl, rfl, rfl⟩ K2
  refine wkP.newP 6 .byte (2 * n) 10 (w22 g.1) rfl rfl rfl dnbf_4 (toI (by omega)) (by omega) (by decide) (by decide) (by decide) rfl ?_
  intro h3 a3 g3 l3 K3 A3
  have z3 := K3.1
  exact wkP.retA (.array .byte) [a3] g.2.1 dnbf_6 rfl rfl (by decide) (by decide) (by simp) ⟨a3, rfl, by omega, rfl, A3⟩
abbrev rulen : Room := { frames := 0, cells := 0, slots := 0, locals := 0 }
set_option maxRecDepth 65536 in
set_option maxHeartbeats 4000000 in
theorem M_ulen (l : Launch) (Z : State) (a0 : Array Value) (g : G Z a0) (h : Heap) (d : Addr) (ys : List Int32) (n : Nat) (F : Ia Z h d .byte ys) (hn : ys.length = 2 * n) : wkM l Z bulen rulen #[.ref d] h [] (fun v h' os => v = some (.int (Int32.ofNat n)) ∧ os = [] ∧ h = h') := by
  refine wkM.of #[.val (.ref d)] (plainFor_of_name (by first | (simp [plainName, overriddenIn]; done) | decide +kernel)) (fun m => by first | rfl | (simp [entryFrame, mkF, argsToLocals, Value.category]; done)) ?_
  refine wkP.aloadN 1 dulen_0 rfl rfl rfl ?_
  refine wkP.alen 2 (Int32.ofNat (2 * n)) F dulen_1 (by rw [hn]) rfl ?_
  refine wkP.iconst 3 (1 : Int32) dulen_2 rfl rfl ?_
  refine wkP.ishr 4 (Int32.ofNat n) dulen_3 (shr1 (by have := F.len; omega)) rfl ?_
  exact wkP.retI .int [] g.2.1 dulen_4 rfl (by simp) rfl (by decide) (by decide) (by simp) ⟨rfl, rfl, rfl⟩
abbrev rputC : Room := { frames := 0, cells := 0, slots := 0, locals := 0 }
set_option maxRecDepth 65536 in
set_option maxHeartbeats 4000000 in
theorem M_putC (l : Launch) (Z : State) (a0 : Array Value) (g : G Z a0) (h : Heap) (d : Addr) (ys : List Int32) (i : Nat) (c : Int32) (F : Ia Z h d .byte ys) (hi : 2 * i + 1 < ys.length) : wkM l Z bputC rputC #[.ref d, .int (Int32.ofNat i), .int c] h [d] (fun v h' os => v = none ∧ os = [] ∧ Ia Z h' d .byte ((ys.set (2 * i) (lo8 c)).set (2 * i + 1) (hi8 c))) := by
  refine wkM.of #[.val (.ref d), .val (.int (Int32.ofNat i)), .val (.int c)] (plainFor_of_name (by first | (simp [plainName, overriddenIn]; done) | decide +kernel)) (fun m => by first | rfl | (simp [entryFrame, mkF, argsToLocals, Value.category]; done)) ?_
  refine wkP.getS 3 (w108 g.1) g.2.2.2.2.1 Via.refl dputC_0 rfl ?_
  refine wkP.ifT 28 dputC_3 (show ¬ (1 : Int32) = (0 : Int32) from (by decide)) (by decide) (by decide) ?_
  refine wkP.iloadN 29 dputC_28 rfl rfl ?_
  refine wkP.iconst 30 (1 : Int32) dputC_29 rfl rfl ?_
  refine wkP.ishl 31 (Int32.ofNat (2 * i)) dputC_30 (shl1 (by have := F.len; omega)) rfl ?_
  refine wkP.istoreN 32 #[.val (.ref d), .val (.int (Int32.ofNat (2 * i))), .val (.int c)] dputC_31 rfl rfl ?_
  refine wkP.aloadN 33 dputC_32 rfl rfl rfl ?_
  refine wkP.iloadN 34 dputC_33 rfl rfl ?_
  refine wkP.iinc 37 (Int32.ofNat (2 * i + 1)) #[.val (.ref d), .val (.int (Int32.ofNat (2 * i + 1))), .val (.int c)] dputC_34 rfl (inc1 _) rfl rfl ?_
  refine wkP.iloadN 38 dputC_37 rfl rfl ?_
  refine wkP.getS 41 (w109 g.1) g.2.2.2.2.2.1 Via.refl dputC_38 rfl ?_
  refine wkP.ishr 42 c dputC_41 (shr0 c) rfl ?_
  refine wkP.i2b 43 (lo8 c) dputC_42 rfl rfl ?_
  refine wkP.stB 44 (2 * i) (lo8 c) F dputC_43 (toI (by have := F.len; omega)) (by omega) (nar_lo8 c) (by simp) rfl ?_
  intro h1 K1 A1
  refine wkP.aloadN 45 dputC_44 rfl rfl rfl ?_
  refine wkP.iloadN 46 dputC_45 rfl rfl ?_
  refine wkP.iloadN 47 dputC_46 rfl rfl ?_
  refine wkP.getS 50 (w110 g.1) g.2.2.2.2.2.2 Via.refl dputC_47 rfl ?_
  refine wkP.ishr 51 (c >>> ((8 : Int32) &&& 31)) dputC_50 rfl rfl ?_
  refine wkP.i2b 52 (hi8 c) dputC_51 rfl rfl ?_
  refine wkP.stB 53 (2 * i + 1) (hi8 c) A1 dputC_52 (toI (by have := F.len; omega)) (by simp; omega) (nar_hi8 c) (by simp) rfl ?_
  intro h2 K2 A2
  exact wkP.ret0 [] g.2.1 dputC_53 rfl (by decide) (by decide) (by simp) ⟨rfl, rfl, A2⟩
abbrev rgetC : Room := { frames := 0, cells := 0, slots := 0, locals := 0 }
set_option maxRecDepth 65536 in
set_option maxHeartbeats 4000000 in
theorem M_getC (l : Launch) (Z : State) (a0 : Array Value) (g : G Z a0) (h : Heap) (d : Addr) (cs : List Int32) (i : Nat) (c : Int32) (F : Ia Z h d .byte (u16 cs)) (hc : cs[i]? = some c) (hch : ¬ c < 0 ∧ ¬ 65535 < c) : wkM l Z bgetC rgetC #[.ref d, .int (Int32.ofNat i)] h [] (fun v h' os => v = some (.int c) ∧ os = [] ∧ h = h') := by
  refine wkM.of #[.val (.ref d), .val (.int (Int32.ofNat i))] (plainFor_of_name (by first | (simp [plainName, overriddenIn]; done) | decide +kernel)) (fun m => by first | rfl | (simp [entryFrame, mkF, argsToLocals, Value.category]; done)) ?_
  have hi : i < cs.length := (List.getElem?_eq_some_iff.mp hc).1
  have hL := F.len
  rw [u16_len] at hL
  obtain ⟨q1, q2⟩ := u16_at cs i c hc
  refine wkP.getS 3 (w108 g.1) g.2.2.2.2.1 Via.refl dgetC_0 rfl ?_
  refine wkP.ifT 28 dgetC_3 (show ¬ (1 : Int32) = (0 : Int32) from (by decide)) (by decide) (by decide) ?_
  refine wkP.iloadN 29 dgetC_28 rfl rfl ?_
  refine wkP.iconst 30 (1 : Int32) dgetC_29 rfl rfl ?_
  refine wkP.ishl 31 (Int32.ofNat (2 * i)) dgetC_30 (shl1 (by omega)) rfl ?_
  refine wkP.istoreN 32 #[.val (.ref d), .val (.int (Int32.ofNat (2 * i)))] dgetC_31 rfl rfl ?_
  refine wkP.aloadN 33 dgetC_32 rfl rfl rfl ?_
  refine wkP.iloadN 34 dgetC_33 rfl rfl ?_
  refine wkP.iinc 37 (Int32.ofNat (2 * i + 1)) #[.val (.ref d), .val (.int (Int32.ofNat (2 * i + 1)))] dgetC_34 rfl (inc1 _) rfl rfl ?_
  refine wkP.baload 38 (2 * i) (lo8 c) F dgetC_37 (toI (by omega)) q1 rfl ?_
  refine wkP.sipush 41 (255 : Int32) dgetC_38 rfl rfl ?_
  refine wkP.iand 42 ((lo8 c) &&& (255 : Int32)) dgetC_41 rfl rfl ?_
  refine wkP.getS 45 (w109 g.1) g.2.2.2.2.2.1 Via.refl dgetC_42 rfl ?_
  refine wkP.ishl 46 ((lo8 c) &&& (255 : Int32)) dgetC_45 (shl0 _) rfl ?_
  refine wkP.aloadN 47 dgetC_46 rfl rfl rfl ?_
  refine wkP.iloadN 48 dgetC_47 rfl rfl ?_
  refine wkP.baload 49 (2 * i + 1) (hi8 c) F dgetC_48 (toI (by omega)) q2 rfl ?_
  refine wkP.sipush 52 (255 : Int32) dgetC_49 rfl rfl ?_
  refine wkP.iand 53 ((hi8 c) &&& (255 : Int32)) dgetC_52 rfl rfl ?_
  refine wkP.getS 56 (w110 g.1) g.2.2.2.2.2.2 Via.refl dgetC_53 rfl ?_
  refine wkP.ishl 57 (((hi8 c) &&& (255 : Int32)) <<< ((8 : Int32) &&& 31)) dgetC_56 rfl rfl ?_
  refine wkP.ior 58 (((lo8 c) &&& (255 : Int32)) ||| (((hi8 c) &&& (255 : Int32)) <<< ((8 : Int32) &&& 31))) dgetC_57 rfl rfl ?_
  refine wkP.i2c 59 c dgetC_58 (u16_get hch) rfl ?_
  exact wkP.retI .char [] g.2.1 dgetC_59 rfl (by simp) (by show Value.int (nar .char c) = _; rw [nar_c hch]) (by decide) (by decide) (by simp) ⟨rfl, rfl, rfl⟩
abbrev rtoBy : Room := { frames := 2, cells := 1, slots := 10, locals := 24 }
set_option maxRecDepth 65536 in
set_option maxHeartbeats 4000000 in
theorem L_toBy (l : Launch) (Z : State) (a0 : Array Value) (g : G Z a0) (hs : Heap) (b d : Addr) (cs : List Int32) (hbd : @Ne Nat b d) (hl31 : cs.length < 2 ^ 31) (gd : hs.size ≤ d) : ∀ (r i : Nat) (h : Heap) (ds : List Int32), i + r = cs.length → Ia Z h b .char cs → Ia Z h d .byte ds → ds.length = 2 * cs.length → (∀ j, j < i → ∃ c, cs[j]? = some c ∧ ds[2 * j]? = some (lo8 c) ∧ ds[2 * j + 1]? = some (hi8 c)) →
    wkP l Z btoBy rtoBy hs [] (fun v h' os => ∃ d, v = some (.ref d) ∧ hs.size ≤ d ∧ os = [d] ∧ Ia Z h' d .byte (u16 cs)) [d] h 1 10 8 #[.val (.ref b), .val (.int (Int32.ofNat i)), .val (.int (Int32.ofNat cs.length)), .val (.ref d), .val (.int (Int32.ofNat i))] [] := by
  intro r
  induction r with
  | zero =>
    intro i h ds hir F D hds hj
    have hi31 : i < 2 ^ 31 := by omega
    refine wkP.iload 10 dtoBy_8 rfl rfl ?_
    refine wkP.iloadN 11 dtoBy_10 rfl rfl ?_
    refine wkP.icmpT 32 dtoBy_11 (show ¬ (Int32.ofNat i) < (Int32.ofNat cs.length) from (by rw [ofNat_lt hi31 hl31]; omega)) (by decide) (by decide) ?_
    refine wkP.aloadN 33 dtoBy_32 rfl rfl rfl ?_
    have e : ds = u16 cs := u16_ext hds (fun j hj1 => hj j (by omega))
    subst e
    exact wkP.retA (.array .byte) [d] g.2.1 dtoBy_33 rfl rfl (by decide) (by decide) (by simp) ⟨d, rfl, gd, rfl, D⟩
  | succ r ih =>
    intro i h ds hir F D hds hj
    have hi31 : i < 2 ^ 31 := by omega
    refine wkP.iload 10 dtoBy_8 rfl rfl ?_
    refine wkP.iloadN 11 dtoBy_10 rfl rfl ?_
    refine wkP.icmpF 14 dtoBy_11 (show ¬ (¬ (Int32.ofNat i) < (Int32.ofNat cs.length)) from (fun q => q ((ofNat_lt hi31 hl31).mpr (by omega)))) rfl ?_
    refine wkP.aloadN 15 dtoBy_14 rfl rfl rfl ?_
    refine wkP.iload 17 dtoBy_15 rfl rfl ?_
    refine wkP.aloadN 18 dtoBy_17 rfl rfl rfl ?_
    refine wkP.iloadN 19 dtoBy_18 rfl rfl ?_
    obtain ⟨c, hc⟩ : ∃ c, cs[i]? = some c := ⟨_, List.getElem?_eq_getElem (show i < cs.length by omega)⟩
    refine wkP.caload 20 i c F dtoBy_19 (toI hi31) hc rfl ?_
    refine wkP.callS 23 (M_putC l Z a0 g _ d ds i c D (by omega)) [(.ref d), (.int (Int32.ofNat i)), (.int c)] [] 0 g.2.1 (w105 g.1) (w106 g.1) (w49 g.1) (w107 g.1) (by decide) dtoBy_20 (lenOf pd2 rfl) rfl rfl rfl (by simp) (Nat.le_of_eq rfl) (by decide) (by decide) (by decide) (by decide) rfl ?_
    rintro v6 h6 o6 ⟨rfl, rfl, A6⟩ K6
    have z6 := K6.1
    refine wkP.iinc 26 (Int32.ofNat (i + 1)) #[.val (.ref b), .val (.int (Int32.ofNat (i + 1))), .val (.int (Int32.ofNat cs.length)), .val (.ref d), .val (.int (Int32.ofNat i))] dtoBy_23 rfl (inc1 i) rfl rfl ?_
    refine wkP.iinc 29 (Int32.ofNat (i + 1)) #[.val (.ref b), .val (.int (Int32.ofNat (i + 1))), .val (.int (Int32.ofNat cs.length)), .val (.ref d), .val (.int (Int32.ofNat (i + 1)))] dtoBy_26 rfl (inc1 i) rfl rfl ?_
    refine wkP.goto 8 dtoBy_29 (by decide) (by decide) ?_
    refine ih (i + 1) _ _ (by omega) (F.keep K6 (nn1 hbd)) A6 (by simpa using hds) ?_
    intro j hj1
    by_cases hji : j = i
    · subst hji; refine ⟨c, hc, ?_, ?_⟩
      · rw [List.getElem?_set_ne (by omega), List.getElem?_set_self (by omega)]
      · rw [List.getElem?_set_self (by simp; omega)]
    · obtain ⟨c', q1, q2, q3⟩ := hj j (by omega)
      exact ⟨c', q1, by rw [List.getElem?_set_ne (by omega), List.getElem?_set_ne (by omega)]; exact q2, by rw [List.getElem?_set_ne (by omega), List.getElem?_set_ne (by omega)]; exact q3⟩
set_option maxRecDepth 65536 in
set_option maxHeartbeats 4000000 in
theorem M_toBy (l : Launch) (Z : State) (a0 : Array Value) (g : G Z a0) (h : Heap) (b : Addr) (cs : List Int32) (F : Ia Z h b .char cs) (hcap : cs.length ≤ 5) : wkM l Z btoBy rtoBy #[.ref b, .int 0, .int (Int32.ofNat cs.length)] h [] (fun v h' os => ∃ d, v = some (.ref d) ∧ h.size ≤ d ∧ os = [d] ∧ Ia Z h' d .byte (u16 cs)) := by
  refine wkM.of #[.val (.ref b), .val (.int (0 : Int32)), .val (.int (Int32.ofNat cs.length)), .unset, .unset] (plainFor_of_name (by first | (simp [plainName, overriddenIn]; done) | decide +kernel)) (fun m => by first | rfl | (simp [entryFrame, mkF, argsToLocals, Value.category]; done)) ?_
  refine wkP.iloadN 1 dtoBy_0 rfl rfl ?_
  refine wkP.callS 4 (M_nbf l Z a0 g _ cs.length (by omega)) [(.int (Int32.ofNat cs.length))] [] 0 g.2.1 (w98 g.1) (w99 g.1) (w49 g.1) (w100 g.1) (by decide) dtoBy_1 (lenOf pd1 rfl) rfl rfl rfl (by simp) (Nat.le_of_eq rfl) (by decide) (by decide) (by decide) (by decide) rfl ?_
  rintro v4 h4 o4 ⟨d, rfl, gd, rfl, A4⟩ K4
  have z4 := K4.1
  refine wkP.astoreN 5 #[.val (.ref b), .val (.int (0 : Int32)), .val (.int (Int32.ofNat cs.length)), .val (.ref d), .unset] dtoBy_4 rfl rfl rfl ?_
  refine wkP.iconst 6 (0 : Int32) dtoBy_5 rfl rfl ?_
  refine wkP.istore 8 #[.val (.ref b), .val (.int (0 : Int32)), .val (.int (Int32.ofNat cs.length)), .val (.ref d), .val (.int (0 : Int32))] dtoBy_6 rfl rfl ?_
  have F_5 := (F.keep K4 nn0)
  exact L_toBy l Z a0 g h b d cs (by have := F.lt; omega) F.len gd cs.length 0 _ _ (by omega) F_5 A4 (by simp) (fun j hj => absurd hj (by omega))
abbrev rcmp3 : Room := { frames := 3, cells := 2, slots := 15, locals := 40 }
set_option maxRecDepth 65536 in
set_option maxHeartbeats 4000000 in
theorem M_cmp3 (l : Launch) (Z : State) (a0 : Array Value) (g : G Z a0) (h : Heap) (b : Addr) (cs : List Int32) (F : Ia Z h b .char cs) (hch : chs cs) (hcap : cs.length ≤ 5) : wkM l Z bcmp3 rcmp3 #[.ref b, .int 0, .int (Int32.ofNat cs.length)] h [] (fun v h' os => ∃ d, v = some (.ref d) ∧ h.size ≤ d ∧ os = [d] ∧ ((lat cs ∧ Ia Z h' d .byte (cs.map lo8)) ∨ (¬ lat cs ∧ Ia Z h' d .byte (u16 cs)))) := by
  refine wkM.of #[.val (.ref b), .val (.int (0 : Int32)), .val (.int (Int32.ofNat cs.length)), .unset, .unset, .unset] (plainFor_of_name (by first | (simp [plainName, overriddenIn]; done) | decide +kernel)) (fun m => by first | rfl | (simp [entryFrame, mkF, argsToLocals, Value.category]; done)) ?_
  refine wkP.iloadN 1 dcmp3_0 rfl rfl ?_
  refine wkP.newP 3 .byte cs.length 5 (w22 g.1) rfl rfl rfl dcmp3_1 (toI F.len) (by omega) (by decide) (by decide) (by decide) rfl ?_
  intro h7 a7 g7 l7 K7 A7
  have z7 := K7.1
  refine wkP.astoreN 4 #[.val (.ref b), .val (.int (0 : Int32)), .val (.int (Int32.ofNat cs.length)), .val (.ref a7), .unset, .unset] dcmp3_3 rfl rfl rfl ?_
  refine wkP.aloadN 5 dcmp3_4 rfl rfl rfl ?_
  refine wkP.iloadN 6 dcmp3_5 rfl rfl ?_
  refine wkP.aloadN 7 dcmp3_6 rfl rfl rfl ?_
  refine wkP.iconst 8 (0 : Int32) dcmp3_7 rfl rfl ?_
  refine wkP.iloadN 9 dcmp3_8 rfl rfl ?_
  have F_8 := (F.keep K7 nn0)
  refine wkP.callS 12 (M_cmp5 l Z a0 g _ b a7 cs _ F_8 A7 (by simp)) [(.ref b), (.int (0 : Int32)), (.ref a7), (.int (0 : Int32)), (.int (Int32.ofNat cs.length))] [] 0 g.2.1 (w51 g.1) (w52 g.1) (w49 g.1) (w53 g.1) (by decide) dcmp3_9 (lenOf pd3 rfl) rfl rfl rfl (by simp) (Nat.le_of_eq rfl) (by decide) (by decide) (by decide) (by decide) rfl ?_
  rintro v9 h9 o9 ⟨i, ys, hi, rfl, rfl, A9, hy, hj, hno⟩ K9
  have z9 := K9.1
  have hlb := F.lt
  refine wkP.istore 14 #[.val (.ref b), .val (.int (0 : Int32)), .val (.int (Int32.ofNat cs.length)), .val (.ref a7), .val (.int (Int32.ofNat i)), .unset] dcmp3_12 rfl rfl ?_
  refine wkP.iload 16 dcmp3_14 rfl rfl ?_
  refine wkP.iloadN 17 dcmp3_16 rfl rfl ?_
  by_cases hil : i = cs.length
  · refine wkP.icmpT 57 dcmp3_17 (show (Int32.ofNat i) = (Int32.ofNat cs.length) from (by rw [hil])) (by decide) (by decide) ?_
    have hlat : lat cs := by
      intro c hc
      obtain ⟨j, hjl, rfl⟩ := List.getElem_of_mem hc
      obtain ⟨c', c1, c2, -⟩ := hj j (by omega)
      rw [List.getElem?_eq_getElem hjl] at c1; cases c1; exact ⟨(hch _ hc).1, c2⟩
    have hys : ys = cs.map lo8 := by
      refine List.ext_getElem? fun j => ?_
      rcases Nat.lt_or_ge j cs.length with q | q
      · obtain ⟨c, c1, -, c2⟩ := hj j (by omega); rw [c2]; simp [c1]
      · rw [List.getElem?_eq_none (by omega), List.getElem?_eq_none (by simpa using q)]
    subst hys
    refine wkP.aloadN 58 dcmp3_57 rfl rfl rfl ?_
    exact wkP.retA (.array .byte) [a7] g.2.1 dcmp3_58 rfl rfl (by decide) (by decide) (by simp) ⟨a7, rfl, by omega, rfl, Or.inl ⟨hlat, A9⟩⟩
  · refine wkP.icmpF 20 dcmp3_17 (show ¬ ((Int32.ofNat i) = (Int32.ofNat cs.length)) from (fun q => hil ((ofNat_inj (show i < 2 ^ 31 by have := F.len; omega) F.len).mp q))) rfl ?_
    obtain ⟨c, hc, hc2⟩ := hno (by omega)
    have hlat : ¬ lat cs := fun q => (q c (List.mem_of_getElem? hc)).2 hc2
    refine wkP.aloadN 21 dcmp3_20 rfl rfl rfl ?_
    refine wkP.iloadN 22 dcmp3_21 rfl rfl ?_
    refine wkP.iloadN 23 dcmp3_22 rfl rfl ?_
    have F_10 := (F_8.keep K9 (nnS (by omega) nn0))
    refine wkP.callS 26 (M_toBy l Z a0 g _ b cs F_10 hcap) [(.ref b), (.int (0 : Int32)), (.int (Int32.ofNat cs.length))] [] 0 g.2.1 (w95 g.1) (w96 g.1) (w49 g.1) (w97 g.1) (by decide) dcmp3_23 (lenOf pd4 rfl) rfl rfl rfl (by simp) (Nat.le_of_eq rfl) (by decide) (by decide) (by decide) (by decide) rfl ?_
    rintro v11 h11 o11 ⟨u, rfl, gu, rfl, A11⟩ K11
    have z11 := K11.1
    refine wkP.astore 28 #[.val (.ref b), .val (.int (0 : Int32)), .val (.int (Int32.ofNat cs.length)), .val (.ref a7), .val (.int (Int32.ofNat i)), .val (.ref u)] dcmp3_26 rfl rfl rfl ?_
    refine wkP.aload 30 dcmp3_28 rfl rfl rfl ?_
    refine wkP.iload 32 dcmp3_30 rfl rfl ?_
    refine wkP.callS 35 (M_getC l Z a0 g _ u cs i c A11 hc (hch c (List.mem_of_getElem? hc))) [(.ref u), (.int (Int32.ofNat i))] [] 0 g.2.1 (w111 g.1) (w112 g.1) (w49 g.1) (w113 g.1) (by decide) dcmp3_32 (lenOf pd5 rfl) rfl rfl rfl (by simp) (Nat.le_of_eq rfl) (by decide) (by decide) (by decide) (by decide) rfl ?_
    rintro v12 _ o12 ⟨rfl, rfl, rfl⟩ K12
    refine wkP.sipush 38 (255 : Int32) dcmp3_35 rfl rfl ?_
    refine wkP.icmpT 54 dcmp3_38 (show (255 : Int32) < c from hc2) (by decide) (by decide) ?_
    refine wkP.aload 56 dcmp3_54 rfl rfl rfl ?_
    exact wkP.retA (.array .byte) [u] g.2.1 dcmp3_56 rfl rfl (by decide) (by decide) (by simp) ⟨u, rfl, by omega, rfl, Or.inr ⟨hlat, A11⟩⟩
abbrev rinit4 : Room := { frames := 4, cells := 4, slots := 15, locals := 57 }
set_option maxRecDepth 65536 in
set_option maxHeartbeats 4000000 in
theorem M_init4 (l : Launch) (Z : State) (a0 : Array Value) (g : G Z a0) (h : Heap) (a b : Addr) (cs : List Int32) (F : Ia Z h b .char cs) (hch : chs cs) (hcap : cs.length ≤ 5) (vc vv : Value) (E : Exa Z h a "java/lang/String") (FC : Fld Z h a "java/lang/String" "coder" "B" vc) (FV : Fld Z h a "java/lang/String" "value" "[B" vv) : wkM l Z binit4 rinit4 #[.ref a, .ref b, .int 0, .int (Int32.ofNat cs.length), .null] h [a] (fun v h' os => ∃ d, v = none ∧ os = [] ∧ St Z h' a d cs) := by
  refine wkM.of #[.val (.ref a), .val (.ref b), .val (.int (0 : Int32)), .val (.int (Int32.ofNat cs.length)), .val .null, .unset] (plainFor_of_name (by first | (simp [plainName, overriddenIn]; done) | decide +kernel)) (fun m => by first | rfl | (simp [entryFrame, mkF, argsToLocals, Value.category]; done)) ?_
  obtain ⟨zc, hzc, hzn⟩ := g.2.2.1
  have la := exaLt E
  refine wkP.aloadN 1 dinit4_0 rfl rfl rfl ?_
  refine wkP.initO 4 (w18 g.1) (w19 g.1) (w20 g.1) dinit4_1 rfl (by decide) 0 (Nat.le_of_eq rfl) (by decide) rfl ?_
  refine wkP.iloadN 5 dinit4_4 rfl rfl ?_
  by_cases hne : cs.length = 0
  · refine wkP.ifF 8 dinit4_5 (show ¬ (¬ (Int32.ofNat cs.length) = (0 : Int32)) from (fun q => q (by rw [hne]; rfl))) rfl ?_
    obtain rfl : cs = [] := List.length_eq_zero_iff.mp hne
    refine wkP.aloadN 9 dinit4_8 rfl rfl rfl ?_
    refine wkP.ldc 11 ([] : List Int32) 0 (w21 g.1) (sAtoms g.1) g.2.1 (by decide) (by decide) rfl (by decide) dinit4_9 (by decide) (by decide) (by decide) (by decide) rfl ?_
    intro h13 a13 b13 K13 E13 C13 V13 A13 ne13
    have z13 := K13.1
    have la13 := exaLt E13
    have lb13 := A13.lt
    refine wkP.getF 14 (w27 g.1) V13 Via.refl dinit4_11 rfl ?_
    have FV_14 := (FV.keep K13 nn0)
    have E_15 := (E.keep K13)
    have FC_16 := (FC.keep K13 nn0)
    refine wkP.putF 17 (w27 g.1) FV_14 E_15 (Or.inr ⟨(w23 g.1), rfl, rfl⟩) (w9 g.1) (ty := (.array .byte)) (by decide) rfl rfl dinit4_14 (by simp) rfl ?_
    intro h17 K17 W17
    have z17 := K17.1
    have F17 := Fld.same W17 FV_14
    have E17 := Exa.wr W17 E_15
    have F18 := Fld.other W17 FC_16 (Or.inr (slot_ne (t := .byte) (t' := (.array .byte)) (Or.inr (w24 g.1)) (Or.inr (w23 g.1)) (by decide) (by decide) (by decide)))
    refine wkP.aloadN 18 dinit4_17 rfl rfl rfl ?_
    refine wkP.ldc 20 ([] : List Int32) 0 (w21 g.1) (sAtoms g.1) g.2.1 (by decide) (by decide) rfl (by decide) dinit4_18 (by decide) (by decide) (by decide) (by decide) rfl ?_
    intro h19 a19 b19 K19 E19 C19 V19 A19 ne19
    have z19 := K19.1
    have la19 := exaLt E19
    have lb19 := A19.lt
    refine wkP.getF 23 (w28 g.1) C19 Via.refl dinit4_20 rfl ?_
    have F18_20 := (F18.keep K19 nn0)
    have E17_21 := (E17.keep K19)
    have F17_22 := (F17.keep K19 nn0)
    refine wkP.putF 26 (w28 g.1) F18_20 E17_21 (Or.inr ⟨(w24 g.1), rfl, rfl⟩) (w9 g.1) (ty := .byte) (by decide) rfl rfl dinit4_23 (by simp) rfl ?_
    intro h23 K23 W23
    have z23 := K23.1
    have F23 := Fld.same W23 F18_20
    have E23 := Exa.wr W23 E17_21
    have F24 := Fld.other W23 F17_22 (Or.inr (slot_ne (t := (.array .byte)) (t' := .byte) (Or.inr (w23 g.1)) (Or.inr (w24 g.1)) (by decide) (by decide) (by decide)))
    have A13_25 := (((A13.keep K17 (nnS (Ne.symm (ne13 a (by simp)).2) nn0)).keep K19 nn0).keep K23 (nnS (Ne.symm (ne13 a (by simp)).2) nn0))
    exact wkP.ret0 [] g.2.1 dinit4_26 rfl (by decide) (by decide) (by simp) ⟨b13, rfl, rfl, Or.inl ⟨E23, F23, F24, A13_25, fun x hx => by simp at hx⟩⟩
  · refine wkP.ifT 27 dinit4_5 (show ¬ (Int32.ofNat cs.length) = (0 : Int32) from (fun q => hne ((ofNat_inj F.len (by decide)).mp q))) (by decide) (by decide) ?_
    refine wkP.getS 30 (w46 g.1) hzc Via.refl dinit4_27 rfl ?_
    refine wkP.ifF 33 dinit4_30 (show ¬ (zc = (0 : Int32)) from hzn) rfl ?_
    refine wkP.aloadN 34 dinit4_33 rfl rfl rfl ?_
    refine wkP.iloadN 35 dinit4_34 rfl rfl ?_
    refine wkP.iloadN 36 dinit4_35 rfl rfl ?_
    refine wkP.callS 39 (M_cmp3 l Z a0 g _ b cs F hch hcap) [(.ref b), (.int (0 : Int32)), (.int (Int32.ofNat cs.length))] [] 0 g.2.1 (w47 g.1) (w48 g.1) (w49 g.1) (w50 g.1) (by decide) dinit4_36 (lenOf pd4 rfl) rfl rfl rfl (by simp) (Nat.le_of_eq rfl) (by decide) (by decide) (by decide) (by decide) rfl ?_
    rintro v26 h26 o26 ⟨d, rfl, gd, rfl, A26⟩ K26
    have z26 := K26.1
    refine wkP.astore 41 #[.val (.ref a), .val (.ref b), .val (.int (0 : Int32)), .val (.int (Int32.ofNat cs.length)), .val .null, .val (.ref d)] dinit4_39 rfl rfl rfl ?_
    refine wkP.aloadN 42 dinit4_41 rfl rfl rfl ?_
    refine wkP.aload 44 dinit4_42 rfl rfl rfl ?_
    refine wkP.iloadN 45 dinit4_44 rfl rfl ?_
    rcases A26 with ⟨hlat, A26⟩ | ⟨hlat, A26⟩
    · have ld := A26.lt
      have hl2 : (cs.map lo8).length = cs.length := by simp
      refine wkP.callS 48 (M_codL l Z a0 g _ d (cs.map lo8) cs.length A26 hl2) [(.ref d), (.int (Int32.ofNat cs.length))] [(.ref a)] 1 g.2.1 (w54 g.1) (w55 g.1) (w49 g.1) (w56 g.1) (by decide) dinit4_45 (lenOf pd6 rfl) rfl rfl rfl (by simp) (Nat.le_of_eq rfl) (by decide) (by decide) (by decide) (by decide) rfl ?_
      rintro v27 _ o27 ⟨rfl, rfl, rfl⟩ K27
      have FC_28 := (FC.keep K26 nn0)
      have E_29 := (E.keep K26)
      have FV_30 := (FV.keep K26 nn0)
      refine wkP.putF 51 (w28 g.1) FC_28 E_29 (Or.inr ⟨(w24 g.1), rfl, rfl⟩) (w9 g.1) (ty := .byte) (by decide) rfl rfl dinit4_48 (by simp) rfl ?_
      intro h31 K31 W31
      have z31 := K31.1
      have F31 := Fld.same W31 FC_28
      have E31 := Exa.wr W31 E_29
      have F32 := Fld.other W31 FV_30 (Or.inr (slot_ne (t := (.array .byte)) (t' := .byte) (Or.inr (w23 g.1)) (Or.inr (w24 g.1)) (by decide) (by decide) (by decide)))
      refine wkP.aloadN 52 dinit4_51 rfl rfl rfl ?_
      refine wkP.aload 54 dinit4_52 rfl rfl rfl ?_
      refine wkP.putF 57 (w27 g.1) F32 E31 (Or.inr ⟨(w23 g.1), rfl, rfl⟩) (w9 g.1) (ty := (.array .byte)) (by decide) rfl rfl dinit4_54 (by simp) rfl ?_
      intro h33 K33 W33
      have z33 := K33.1
      have F33 := Fld.same W33 F32
      have E33 := Exa.wr W33 E31
      have F34 := Fld.other W33 F31 (Or.inr (slot_ne (t := .byte) (t' := (.array .byte)) (Or.inr (w24 g.1)) (Or.inr (w23 g.1)) (by decide) (by decide) (by decide)))
      have A26_35 := ((A26.keep K31 (nnS (by omega) nn0)).keep K33 (nnS (by omega) nn0))
      exact wkP.ret0 [] g.2.1 dinit4_57 rfl (by decide) (by decide) (by simp) ⟨d, rfl, rfl, Or.inl ⟨E33, F34, F33, A26_35, hlat⟩⟩
    · have ld := A26.lt
      refine wkP.callS 48 (M_codU l Z a0 g _ d (u16 cs) cs.length A26 (u16_len cs) hne) [(.ref d), (.int (Int32.ofNat cs.length))] [(.ref a)] 1 g.2.1 (w54 g.1) (w55 g.1) (w49 g.1) (w56 g.1) (by decide) dinit4_45 (lenOf pd6 rfl) rfl rfl rfl (by simp) (Nat.le_of_eq rfl) (by decide) (by decide) (by decide) (by decide) rfl ?_
      rintro v36 _ o36 ⟨rfl, rfl, rfl⟩ K36
      have FC_37 := (FC.keep K26 nn0)
      have E_38 := (E.keep K26)
      have FV_39 := (FV.keep K26 nn0)
      refine wkP.putF 51 (w28 g.1) FC_37 E_38 (Or.inr ⟨(w24 g.1), rfl, rfl⟩) (w9 g.1) (ty := .byte) (by decide) rfl rfl dinit4_48 (by simp) rfl ?_
      intro h40 K40 W40
      have z40 := K40.1
      have F40 := Fld.same W40 FC_37
      have E40 := Exa.wr W40 E_38
      have F41 := Fld.other W40 FV_39 (Or.inr (slot_ne (t := (.array .byte)) (t' := .byte) (Or.inr (w23 g.1)) (Or.inr (w24 g.1)) (by decide) (by decide) (by decide)))
      refine wkP.aloadN 52 dinit4_51 rfl rfl rfl ?_
      refine wkP.aload 54 dinit4_52 rfl rfl rfl ?_
      refine wkP.putF 57 (w27 g.1) F41 E40 (Or.inr ⟨(w23 g.1), rfl, rfl⟩) (w9 g.1) (ty := (.array .byte)) (by decide) rfl rfl dinit4_54 (by simp) rfl ?_
      intro h42 K42 W42
      have z42 := K42.1
      have F42 := Fld.same W42 F41
      have E42 := Exa.wr W42 E40
      have F43 := Fld.other W42 F40 (Or.inr (slot_ne (t := .byte) (t' := (.array .byte)) (Or.inr (w24 g.1)) (Or.inr (w23 g.1)) (by decide) (by decide) (by decide)))
      have A26_44 := ((A26.keep K40 (nnS (by omega) nn0)).keep K42 (nnS (by omega) nn0))
      exact wkP.ret0 [] g.2.1 dinit4_57 rfl (by decide) (by decide) (by simp) ⟨d, rfl, rfl, Or.inr ⟨E42, F43, F42, A26_44, hch, hlat⟩⟩
abbrev rinit1 : Room := { frames := 5, cells := 4, slots := 15, locals := 74 }
set_option maxRecDepth 65536 in
set_option maxHeartbeats 4000000 in
theorem M_init1 (l : Launch) (Z : State) (a0 : Array Value) (g : G Z a0) (h : Heap) (a b : Addr) (cs : List Int32) (F : Ia Z h b .char cs) (hch : chs cs) (hcap : cs.length ≤ 5) (vc vv : Value) (E : Exa Z h a "java/lang/String") (FC : Fld Z h a "java/lang/String" "coder" "B" vc) (FV : Fld Z h a "java/lang/String" "value" "[B" vv) : wkM l Z binit1 rinit1 #[.ref a, .ref b] h [a] (fun v h' os => ∃ d, v = none ∧ os = [] ∧ St Z h' a d cs) := by
  refine wkM.of #[.val (.ref a), .val (.ref b)] (plainFor_of_name (by first | (simp [plainName, overriddenIn]; done) | decide +kernel)) (fun m => by first | rfl | (simp [entryFrame, mkF, argsToLocals, Value.category]; done)) ?_
  refine wkP.aloadN 1 dinit1_0 rfl rfl rfl ?_
  refine wkP.aloadN 2 dinit1_1 rfl rfl rfl ?_
  refine wkP.iconst 3 (0 : Int32) dinit1_2 rfl rfl ?_
  refine wkP.aloadN 4 dinit1_3 rfl rfl rfl ?_
  refine wkP.alen 5 (Int32.ofNat cs.length) F dinit1_4 rfl rfl ?_
  refine wkP.anull 6 dinit1_5 rfl ?_
  refine wkP.callI 9 (M_init4 l Z a0 g _ a b cs F hch hcap vc vv E FC FV) [(.ref b), (.int (0 : Int32)), (.int (Int32.ofNat cs.length)), .null] [] 0 g.2.1 (w14 g.1) (w15 g.1) (w10 g.1) (w17 g.1) rfl rfl (by decide) dinit1_6 (lenOf pd7 rfl) rfl rfl rfl (by simp) (Nat.le_of_eq rfl) (by decide) (by decide) (by decide) (by decide) rfl ?_
  rintro v45 h45 o45 ⟨d, rfl, rfl, H⟩ K45
  have z45 := K45.1
  exact wkP.ret0 [] g.2.1 dinit1_9 rfl (by decide) (by decide) (by simp) ⟨d, rfl, rfl, H⟩
abbrev rcoder : Room := { frames := 0, cells := 0, slots := 0, locals := 0 }
set_option maxRecDepth 65536 in
set_option maxHeartbeats 4000000 in
theorem M_coderL (l : Launch) (Z : State) (a0 : Array Value) (g : G Z a0) (h : Heap) (a b : Addr) (cs : List Int32) (F : SL Z h a b cs) : wkM l Z bcoder rcoder #[.ref a] h [] (fun v h' os => v = some (.int 0) ∧ os = [] ∧ h = h') := by
  refine wkM.of #[.val (.ref a)] (plainFor_of_name (by first | (simp [plainName, overriddenIn]; done) | decide +kernel)) (fun m => by first | rfl | (simp [entryFrame, mkF, argsToLocals, Value.category]; done)) ?_
  obtain ⟨zc, hzc, hzn⟩ := g.2.2.1
  refine wkP.getS 3 (w46 g.1) hzc Via.refl dcoder_0 rfl ?_
  refine wkP.ifF 6 dcoder_3 (show ¬ (zc = (0 : Int32)) from hzn) rfl ?_
  refine wkP.aloadN 7 dcoder_6 rfl rfl rfl ?_
  refine wkP.getF 10 (w28 g.1) F.2.1 Via.refl dcoder_7 rfl ?_
  refine wkP.goto 14 dcoder_10 (by decide) (by decide) ?_
  exact wkP.retI .byte [] g.2.1 dcoder_14 rfl (by simp) rfl (by decide) (by decide) (by simp) ⟨rfl, rfl, rfl⟩
set_option maxRecDepth 65536 in
set_option maxHeartbeats 4000000 in
theorem M_coderU (l : Launch) (Z : State) (a0 : Array Value) (g : G Z a0) (h : Heap) (a b : Addr) (cs : List Int32) (F : SU Z h a b cs) : wkM l Z bcoder rcoder #[.ref a] h [] (fun v h' os => v = some (.int 1) ∧ os = [] ∧ h = h') := by
  refine wkM.of #[.val (.ref a)] (plainFor_of_name (by first | (simp [plainName, overriddenIn]; done) | decide +kernel)) (fun m => by first | rfl | (simp [entryFrame, mkF, argsToLocals, Value.category]; done)) ?_
  obtain ⟨zc, hzc, hzn⟩ := g.2.2.1
  refine wkP.getS 3 (w46 g.1) hzc Via.refl dcoder_0 rfl ?_
  refine wkP.ifF 6 dcoder_3 (show ¬ (zc = (0 : Int32)) from hzn) rfl ?_
  refine wkP.aloadN 7 dcoder_6 rfl rfl rfl ?_
  refine wkP.getF 10 (w28 g.1) F.2.1 Via.refl dcoder_7 rfl ?_
  refine wkP.goto 14 dcoder_10 (by decide) (by decide) ?_
  exact wkP.retI .byte [] g.2.1 dcoder_14 rfl (by simp) rfl (by decide) (by decide) (by simp) ⟨rfl, rfl, rfl⟩
abbrev risLat : Room := { frames := 0, cells := 0, slots := 0, locals := 0 }
set_option maxRecDepth 65536 in
set_option maxHeartbeats 4000000 in
theorem M_isLatL (l : Launch) (Z : State) (a0 : Array Value) (g : G Z a0) (h : Heap) (a b : Addr) (cs : List Int32) (F : SL Z h a b cs) : wkM l Z bisLat risLat #[.ref a] h [] (fun v h' os => v = some (.int 1) ∧ os = [] ∧ h = h') := by
  refine wkM.of #[.val (.ref a)] (plainFor_of_name (by first | (simp [plainName, overriddenIn]; done) | decide +kernel)) (fun m => by first | rfl | (simp [entryFrame, mkF, argsToLocals, Value.category]; done)) ?_
  obtain ⟨zc, hzc, hzn⟩ := g.2.2.1
  refine wkP.getS 3 (w46 g.1) hzc Via.refl disLat_0 rfl ?_
  refine wkP.ifF 6 disLat_3 (show ¬ (zc = (0 : Int32)) from hzn) rfl ?_
  refine wkP.aloadN 7 disLat_6 rfl rfl rfl ?_
  refine wkP.getF 10 (w28 g.1) F.2.1 Via.refl disLat_7 rfl ?_
  refine wkP.ifF 13 disLat_10 (show ¬ (¬ (0 : Int32) = (0 : Int32)) from (by decide)) rfl ?_
  refine wkP.iconst 14 (1 : Int32) disLat_13 rfl rfl ?_
  refine wkP.goto 18 disLat_14 (by decide) (by decide) ?_
  exact wkP.retI .boolean [] g.2.1 disLat_18 rfl (by simp) rfl (by decide) (by decide) (by simp) ⟨rfl, rfl, rfl⟩
set_option maxRecDepth 65536 in
set_option maxHeartbeats 4000000 in
theorem M_isLatU (l : Launch) (Z : State) (a0 : Array Value) (g : G Z a0) (h : Heap) (a b : Addr) (cs : List Int32) (F : SU Z h a b cs) : wkM l Z bisLat risLat #[.ref a] h [] (fun v h' os => v = some (.int 0) ∧ os = [] ∧ h = h') := by
  refine wkM.of #[.val (.ref a)] (plainFor_of_name (by first | (simp [plainName, overriddenIn]; done) | decide +kernel)) (fun m => by first | rfl | (simp [entryFrame, mkF, argsToLocals, Value.category]; done)) ?_
  obtain ⟨zc, hzc, hzn⟩ := g.2.2.1
  refine wkP.getS 3 (w46 g.1) hzc Via.refl disLat_0 rfl ?_
  refine wkP.ifF 6 disLat_3 (show ¬ (zc = (0 : Int32)) from hzn) rfl ?_
  refine wkP.aloadN 7 disLat_6 rfl rfl rfl ?_
  refine wkP.getF 10 (w28 g.1) F.2.1 Via.refl disLat_7 rfl ?_
  refine wkP.ifT 17 disLat_10 (show ¬ (1 : Int32) = (0 : Int32) from (by decide)) (by decide) (by decide) ?_
  refine wkP.iconst 18 (0 : Int32) disLat_17 rfl rfl ?_
  exact wkP.retI .boolean [] g.2.1 disLat_18 rfl (by simp) rfl (by decide) (by decide) (by simp) ⟨rfl, rfl, rfl⟩
abbrev rlen : Room := { frames := 1, cells := 0, slots := 0, locals := 13 }
set_option maxRecDepth 65536 in
set_option maxHeartbeats 4000000 in
theorem M_len (l : Launch) (Z : State) (a0 : Array Value) (g : G Z a0) (h : Heap) (a b : Addr) (cs : List Int32) (F : St Z h a b cs)  : wkM l Z blen rlen #[.ref a] h [] (fun v h' os => v = some (.int (Int32.ofNat cs.length)) ∧ os = [] ∧ h = h') := by
  refine wkM.of #[.val (.ref a)] (plainFor_of_name (by first | (simp [plainName, overriddenIn]; done) | decide +kernel)) (fun m => by first | rfl | (simp [entryFrame, mkF, argsToLocals, Value.category]; done)) ?_
  rcases F with F | F
  · refine wkP.aloadN 1 dlen_0 rfl rfl rfl ?_
    refine wkP.getF 4 (w27 g.1) F.2.2.1 Via.refl dlen_1 rfl ?_
    have hL := F.2.2.2.1.len
    refine wkP.alen 5 (Int32.ofNat cs.length) F.2.2.2.1 dlen_4 (by simp) rfl ?_
    refine wkP.aloadN 6 dlen_5 rfl rfl rfl ?_
    refine wkP.callV 9 (M_coderL l Z a0 g _ a b cs F) [] [(.int (Int32.ofNat cs.length))] 1 g.2.1 F.1 (wkNFs (w44 g.1)) (w41 g.1) (w42 g.1) (w44 g.1) (w43 g.1) (w10 g.1) (w45 g.1) (by decide) dlen_6 (lenOf pd8 rfl) rfl rfl rfl (by simp) (Nat.le_of_eq rfl) (by decide) (by decide) (by decide) (by decide) rfl ?_
    rintro v46 _ o46 ⟨rfl, rfl, rfl⟩ K46
    refine wkP.ishr 10 (Int32.ofNat cs.length) dlen_9 (shr0 _) rfl ?_
    exact wkP.retI .int [] g.2.1 dlen_10 rfl (by simp) rfl (by decide) (by decide) (by simp) ⟨rfl, rfl, rfl⟩
  · refine wkP.aloadN 1 dlen_0 rfl rfl rfl ?_
    refine wkP.getF 4 (w27 g.1) F.2.2.1 Via.refl dlen_1 rfl ?_
    have hL := F.2.2.2.1.len
    rw [u16_len] at hL
    refine wkP.alen 5 (Int32.ofNat (2 * cs.length)) F.2.2.2.1 dlen_4 (by rw [u16_len]) rfl ?_
    refine wkP.aloadN 6 dlen_5 rfl rfl rfl ?_
    refine wkP.callV 9 (M_coderU l Z a0 g _ a b cs F) [] [(.int (Int32.ofNat (2 * cs.length)))] 1 g.2.1 F.1 (wkNFs (w44 g.1)) (w41 g.1) (w42 g.1) (w44 g.1) (w43 g.1) (w10 g.1) (w45 g.1) (by decide) dlen_6 (lenOf pd8 rfl) rfl rfl rfl (by simp) (Nat.le_of_eq rfl) (by decide) (by decide) (by decide) (by decide) rfl ?_
    rintro v47 _ o47 ⟨rfl, rfl, rfl⟩ K47
    refine wkP.ishr 10 (Int32.ofNat cs.length) dlen_9 (shr1 hL) rfl ?_
    exact wkP.retI .int [] g.2.1 dlen_10 rfl (by simp) rfl (by decide) (by decide) (by simp) ⟨rfl, rfl, rfl⟩
abbrev rpchk : Room := { frames := 0, cells := 0, slots := 0, locals := 0 }
set_option maxRecDepth 65536 in
set_option maxHeartbeats 4000000 in
theorem M_pchk (l : Launch) (Z : State) (a0 : Array Value) (g : G Z a0) (h : Heap) (i n : Nat) (fm : Value) (hr : fm.isRef = true) (hi : i < n) (hn : n < 2 ^ 31) : wkM l Z bpchk rpchk #[.int (Int32.ofNat i), .int (Int32.ofNat n), fm] h [] (fun v h' os => v = some (.int (Int32.ofNat i)) ∧ os = [] ∧ h = h') := by
  obtain rfl | ⟨fa, rfl⟩ := ref_cases hr
  · refine wkM.of #[.val (.int (Int32.ofNat i)), .val (.int (Int32.ofNat n)), .val .null] (plainFor_of_name (by first | (simp [plainName, overriddenIn]; done) | decide +kernel)) (fun m => by first | rfl | (simp [entryFrame, mkF, argsToLocals, Value.category]; done)) ?_
    refine wkP.iloadN 1 dpchk_0 rfl rfl ?_
    refine wkP.ifF 4 dpchk_1 (show ¬ ((Int32.ofNat i) < (0 : Int32)) from (nn_of (by omega))) rfl ?_
    refine wkP.iloadN 5 dpchk_4 rfl rfl ?_
    refine wkP.iloadN 6 dpchk_5 rfl rfl ?_
    refine wkP.icmpT 16 dpchk_6 (show (Int32.ofNat i) < (Int32.ofNat n) from ((ofNat_lt (by omega) hn).mpr hi)) (by decide) (by decide) ?_
    refine wkP.iloadN 17 dpchk_16 rfl rfl ?_
    exact wkP.retI .int [] g.2.1 dpchk_17 rfl (by simp) rfl (by decide) (by decide) (by simp) ⟨rfl, rfl, rfl⟩
  · refine wkM.of #[.val (.int (Int32.ofNat i)), .val (.int (Int32.ofNat n)), .val (.ref fa)] (plainFor_of_name (by first | (simp [plainName, overriddenIn]; done) | decide +kernel)) (fun m => by first | rfl | (simp [entryFrame, mkF, argsToLocals, Value.category]; done)) ?_
    refine wkP.iloadN 1 dpchk_0 rfl rfl ?_
    refine wkP.ifF 4 dpchk_1 (show ¬ ((Int32.ofNat i) < (0 : Int32)) from (nn_of (by omega))) rfl ?_
    refine wkP.iloadN 5 dpchk_4 rfl rfl ?_
    refine wkP.iloadN 6 dpchk_5 rfl rfl ?_
    refine wkP.icmpT 16 dpchk_6 (show (Int32.ofNat i) < (Int32.ofNat n) from ((ofNat_lt (by omega) hn).mpr hi)) (by decide) (by decide) ?_
    refine wkP.iloadN 17 dpchk_16 rfl rfl ?_
    exact wkP.retI .int [] g.2.1 dpchk_17 rfl (by simp) rfl (by decide) (by decide) (by simp) ⟨rfl, rfl, rfl⟩
abbrev rschk : Room := { frames := 1, cells := 0, slots := 0, locals := 14 }
set_option maxRecDepth 65536 in
set_option maxHeartbeats 4000000 in
theorem M_schk (l : Launch) (Z : State) (a0 : Array Value) (g : G Z a0) (h : Heap) (i n : Nat) (hi : i < n) (hn : n < 2 ^ 31) : wkM l Z bschk rschk #[.int (Int32.ofNat i), .int (Int32.ofNat n)] h [] (fun v h' os => v = none ∧ os = [] ∧ h = h') := by
  refine wkM.of #[.val (.int (Int32.ofNat i)), .val (.int (Int32.ofNat n))] (plainFor_of_name (by first | (simp [plainName, overriddenIn]; done) | decide +kernel)) (fun m => by first | rfl | (simp [entryFrame, mkF, argsToLocals, Value.category]; done)) ?_
  obtain ⟨fm, hfm, hr⟩ := g.2.2.2.1
  refine wkP.iloadN 1 dschk_0 rfl rfl ?_
  refine wkP.iloadN 2 dschk_1 rfl rfl ?_
  refine wkP.getS 5 (w82 g.1) hfm Via.refl dschk_2 rfl ?_
  have hcat : fm.category = 1 := by obtain rfl | ⟨_, rfl⟩ := ref_cases hr <;> rfl
  refine wkP.callS 8 (M_pchk l Z a0 g _ i n fm hr hi hn) [(.int (Int32.ofNat i)), (.int (Int32.ofNat n)), fm] [] 0 g.2.1 (w84 g.1) (w85 g.1) (w83 g.1) (w86 g.1) (by decide) dschk_5 (lenOf pd9 rfl) rfl rfl rfl (by simp) (Nat.le_of_eq rfl) (by decide) (by decide) (by decide) (by decide) rfl ?_
  rintro v48 _ o48 ⟨rfl, rfl, rfl⟩ K48
  refine wkP.pop 9 dschk_8 rfl rfl ?_
  exact wkP.ret0 [] g.2.1 dschk_9 rfl (by decide) (by decide) (by simp) ⟨rfl, rfl, rfl⟩
abbrev ruchk : Room := { frames := 2, cells := 0, slots := 0, locals := 27 }
set_option maxRecDepth 65536 in
set_option maxHeartbeats 4000000 in
theorem M_uchk (l : Launch) (Z : State) (a0 : Array Value) (g : G Z a0) (h : Heap) (d : Addr) (ys : List Int32) (i n : Nat) (F : Ia Z h d .byte ys) (hn : ys.length = 2 * n) (hi : i < n) : wkM l Z buchk ruchk #[.int (Int32.ofNat i), .ref d] h [] (fun v h' os => v = none ∧ os = [] ∧ h = h') := by
  refine wkM.of #[.val (.int (Int32.ofNat i)), .val (.ref d)] (plainFor_of_name (by first | (simp [plainName, overriddenIn]; done) | decide +kernel)) (fun m => by first | rfl | (simp [entryFrame, mkF, argsToLocals, Value.category]; done)) ?_
  have hL := F.len
  refine wkP.iloadN 1 duchk_0 rfl rfl ?_
  refine wkP.aloadN 2 duchk_1 rfl rfl rfl ?_
  refine wkP.callS 5 (M_ulen l Z a0 g _ d ys n F hn) [(.ref d)] [(.int (Int32.ofNat i))] 1 g.2.1 (w122 g.1) (w123 g.1) (w49 g.1) (w124 g.1) (by decide) duchk_2 (lenOf pd10 rfl) rfl rfl rfl (by simp) (Nat.le_of_eq rfl) (by decide) (by decide) (by decide) (by decide) rfl ?_
  rintro v49 _ o49 ⟨rfl, rfl, rfl⟩ K49
  refine wkP.callS 8 (M_schk l Z a0 g _ i n hi (by omega)) [(.int (Int32.ofNat i)), (.int (Int32.ofNat n))] [] 0 g.2.1 (w125 g.1) (w80 g.1) (w10 g.1) (w81 g.1) (by decide) duchk_5 (lenOf pd11 rfl) rfl rfl rfl (by simp) (Nat.le_of_eq rfl) (by decide) (by decide) (by decide) (by decide) rfl ?_
  rintro v50 _ o50 ⟨rfl, rfl, rfl⟩ K50
  exact wkP.ret0 [] g.2.1 duchk_8 rfl (by decide) (by decide) (by simp) ⟨rfl, rfl, rfl⟩
abbrev rlch : Room := { frames := 2, cells := 0, slots := 0, locals := 27 }
set_option maxRecDepth 65536 in
set_option maxHeartbeats 4000000 in
theorem M_lch (l : Launch) (Z : State) (a0 : Array Value) (g : G Z a0) (h : Heap) (d : Addr) (cs : List Int32) (i : Nat) (c : Int32) (F : Ia Z h d .byte (cs.map lo8)) (hc : cs[i]? = some c) (hch : ¬ c < 0 ∧ ¬ 255 < c) : wkM l Z blch rlch #[.ref d, .int (Int32.ofNat i)] h [] (fun v h' os => v = some (.int c) ∧ os = [] ∧ h = h') := by
  refine wkM.of #[.val (.ref d), .val (.int (Int32.ofNat i))] (plainFor_of_name (by first | (simp [plainName, overriddenIn]; done) | decide +kernel)) (fun m => by first | rfl | (simp [entryFrame, mkF, argsToLocals, Value.category]; done)) ?_
  have hi : i < cs.length := (List.getElem?_eq_some_iff.mp hc).1
  have hL : cs.length < 2 ^ 31 := by have := F.len; simpa using this
  refine wkP.iloadN 1 dlch_0 rfl rfl ?_
  refine wkP.aloadN 2 dlch_1 rfl rfl rfl ?_
  refine wkP.alen 3 (Int32.ofNat cs.length) F dlch_2 (by simp) rfl ?_
  refine wkP.callS 6 (M_schk l Z a0 g _ i cs.length hi hL) [(.int (Int32.ofNat i)), (.int (Int32.ofNat cs.length))] [] 0 g.2.1 (w79 g.1) (w80 g.1) (w10 g.1) (w81 g.1) (by decide) dlch_3 (lenOf pd11 rfl) rfl rfl rfl (by simp) (Nat.le_of_eq rfl) (by decide) (by decide) (by decide) (by decide) rfl ?_
  rintro v51 _ o51 ⟨rfl, rfl, rfl⟩ K51
  refine wkP.aloadN 7 dlch_6 rfl rfl rfl ?_
  refine wkP.iloadN 8 dlch_7 rfl rfl ?_
  refine wkP.baload 9 i (lo8 c) F dlch_8 (toI (by omega)) (by simp [hc]) rfl ?_
  refine wkP.sipush 12 (255 : Int32) dlch_9 rfl rfl ?_
  refine wkP.iand 13 ((lo8 c) &&& (255 : Int32)) dlch_12 rfl rfl ?_
  refine wkP.i2c 14 c dlch_13 (lat_get hch) rfl ?_
  exact wkP.retI .char [] g.2.1 dlch_14 rfl (by simp) (by show Value.int (nar .char c) = _; rw [nar_c ⟨hch.1, by have := hch.2; simp only [Int32.lt_iff_toInt_lt, Int32.reduceToInt] at this ⊢; omega⟩]) (by decide) (by decide) (by simp) ⟨rfl, rfl, rfl⟩
abbrev ruch : Room := { frames := 3, cells := 0, slots := 0, locals := 40 }
set_option maxRecDepth 65536 in
set_option maxHeartbeats 4000000 in
theorem M_uch (l : Launch) (Z : State) (a0 : Array Value) (g : G Z a0) (h : Heap) (d : Addr) (cs : List Int32) (i : Nat) (c : Int32) (F : Ia Z h d .byte (u16 cs)) (hc : cs[i]? = some c) (hch : ¬ c < 0 ∧ ¬ 65535 < c) : wkM l Z buch ruch #[.ref d, .int (Int32.ofNat i)] h [] (fun v h' os => v = some (.int c) ∧ os = [] ∧ h = h') := by
  refine wkM.of #[.val (.ref d), .val (.int (Int32.ofNat i))] (plainFor_of_name (by first | (simp [plainName, overriddenIn]; done) | decide +kernel)) (fun m => by first | rfl | (simp [entryFrame, mkF, argsToLocals, Value.category]; done)) ?_
  have hi : i < cs.length := (List.getElem?_eq_some_iff.mp hc).1
  refine wkP.iloadN 1 duch_0 rfl rfl ?_
  refine wkP.aloadN 2 duch_1 rfl rfl rfl ?_
  refine wkP.callS 5 (M_uchk l Z a0 g _ d (u16 cs) i cs.length F (u16_len cs) hi) [(.int (Int32.ofNat i)), (.ref d)] [] 0 g.2.1 (w119 g.1) (w120 g.1) (w49 g.1) (w121 g.1) (by decide) duch_2 (lenOf pd12 rfl) rfl rfl rfl (by simp) (Nat.le_of_eq rfl) (by decide) (by decide) (by decide) (by decide) rfl ?_
  rintro v52 _ o52 ⟨rfl, rfl, rfl⟩ K52
  refine wkP.aloadN 6 duch_5 rfl rfl rfl ?_
  refine wkP.iloadN 7 duch_6 rfl rfl ?_
  refine wkP.callS 10 (M_getC l Z a0 g _ d cs i c F hc hch) [(.ref d), (.int (Int32.ofNat i))] [] 0 g.2.1 (w111 g.1) (w112 g.1) (w49 g.1) (w113 g.1) (by decide) duch_7 (lenOf pd5 rfl) rfl rfl rfl (by simp) (Nat.le_of_eq rfl) (by decide) (by decide) (by decide) (by decide) rfl ?_
  rintro v53 _ o53 ⟨rfl, rfl, rfl⟩ K53
  exact wkP.retI .char [] g.2.1 duch_10 rfl (by simp) (by show Value.int (nar .char c) = _; rw [nar_c hch]) (by decide) (by decide) (by simp) ⟨rfl, rfl, rfl⟩
abbrev rchAt : Room := { frames := 4, cells := 0, slots := 0, locals := 53 }
set_option maxRecDepth 65536 in
set_option maxHeartbeats 4000000 in
theorem M_chAt (l : Launch) (Z : State) (a0 : Array Value) (g : G Z a0) (h : Heap) (a b : Addr) (cs : List Int32) (F : St Z h a b cs) (i : Nat) (c : Int32) (hc : cs[i]? = some c) (hch : ¬ c < 0 ∧ ¬ 65535 < c) : wkM l Z bchAt rchAt #[.ref a, .int (Int32.ofNat i)] h [] (fun v h' os => v = some (.int c) ∧ os = [] ∧ h = h') := by
  refine wkM.of #[.val (.ref a), .val (.int (Int32.ofNat i))] (plainFor_of_name (by first | (simp [plainName, overriddenIn]; done) | decide +kernel)) (fun m => by first | rfl | (simp [entryFrame, mkF, argsToLocals, Value.category]; done)) ?_
  rcases F with F | F
  · refine wkP.aloadN 1 dchAt_0 rfl rfl rfl ?_
    refine wkP.callV 4 (M_isLatL l Z a0 g _ a b cs F) [] [] 0 g.2.1 F.1 (wkNFs (w73 g.1)) (w70 g.1) (w71 g.1) (w73 g.1) (w72 g.1) (w10 g.1) (w74 g.1) (by decide) dchAt_1 (lenOf pd13 rfl) rfl rfl rfl (by simp) (Nat.le_of_eq rfl) (by decide) (by decide) (by decide) (by decide) rfl ?_
    rintro v54 _ o54 ⟨rfl, rfl, rfl⟩ K54
    refine wkP.ifF 7 dchAt_4 (show ¬ ((1 : Int32) = (0 : Int32)) from (by decide)) rfl ?_
    refine wkP.aloadN 8 dchAt_7 rfl rfl rfl ?_
    refine wkP.getF 11 (w27 g.1) F.2.2.1 Via.refl dchAt_8 rfl ?_
    refine wkP.iloadN 12 dchAt_11 rfl rfl ?_
    refine wkP.callS 15 (M_lch l Z a0 g _ b cs i c F.2.2.2.1 hc (F.2.2.2.2 c (List.mem_of_getElem? hc))) [(.ref b), (.int (Int32.ofNat i))] [] 0 g.2.1 (w75 g.1) (w76 g.1) (w77 g.1) (w78 g.1) (by decide) dchAt_12 (lenOf pd5 rfl) rfl rfl rfl (by simp) (Nat.le_of_eq rfl) (by decide) (by decide) (by decide) (by decide) rfl ?_
    rintro v55 _ o55 ⟨rfl, rfl, rfl⟩ K55
    exact wkP.retI .char [] g.2.1 dchAt_15 rfl (by simp) (by show Value.int (nar .char c) = _; rw [nar_c hch]) (by decide) (by decide) (by simp) ⟨rfl, rfl, rfl⟩
  · refine wkP.aloadN 1 dchAt_0 rfl rfl rfl ?_
    refine wkP.callV 4 (M_isLatU l Z a0 g _ a b cs F) [] [] 0 g.2.1 F.1 (wkNFs (w73 g.1)) (w70 g.1) (w71 g.1) (w73 g.1) (w72 g.1) (w10 g.1) (w74 g.1) (by decide) dchAt_1 (lenOf pd13 rfl) rfl rfl rfl (by simp) (Nat.le_of_eq rfl) (by decide) (by decide) (by decide) (by decide) rfl ?_
    rintro v56 _ o56 ⟨rfl, rfl, rfl⟩ K56
    refine wkP.ifT 16 dchAt_4 (show (0 : Int32) = (0 : Int32) from (by decide)) (by decide) (by decide) ?_
    refine wkP.aloadN 17 dchAt_16 rfl rfl rfl ?_
    refine wkP.getF 20 (w27 g.1) F.2.2.1 Via.refl dchAt_17 rfl ?_
    refine wkP.iloadN 21 dchAt_20 rfl rfl ?_
    refine wkP.callS 24 (M_uch l Z a0 g _ b cs i c F.2.2.2.1 hc (F.2.2.2.2.1 c (List.mem_of_getElem? hc))) [(.ref b), (.int (Int32.ofNat i))] [] 0 g.2.1 (w116 g.1) (w117 g.1) (w49 g.1) (w118 g.1) (by decide) dchAt_21 (lenOf pd5 rfl) rfl rfl rfl (by simp) (Nat.le_of_eq rfl) (by decide) (by decide) (by decide) (by decide) rfl ?_
    rintro v57 _ o57 ⟨rfl, rfl, rfl⟩ K57
    exact wkP.retI .char [] g.2.1 dchAt_24 rfl (by simp) (by show Value.int (nar .char c) = _; rw [nar_c hch]) (by decide) (by decide) (by simp) ⟨rfl, rfl, rfl⟩
def hiP (c : Int32) : Bool := decide (¬ c < 55296 ∧ ¬ 56319 < c)
def loP (c : Int32) : Bool := decide (¬ c < 56320 ∧ ¬ 57343 < c)
theorem hi_lo (c : Int32) : (hiP c && loP c) = false := by
  simp only [hiP, loP, Int32.lt_iff_toInt_lt, Int32.reduceToInt, Bool.and_eq_false_iff, decide_eq_false_iff_not]; omega
theorem hi_alt (c : Int32) : hiP c = decide (¬ c < 55296 ∧ c < 56320) := by
  simp only [hiP, Int32.lt_iff_toInt_lt, Int32.reduceToInt, decide_eq_decide]; omega
theorem lo_alt (c : Int32) : loP c = decide (¬ c < 56320 ∧ c < 57344) := by
  simp only [loP, Int32.lt_iff_toInt_lt, Int32.reduceToInt, decide_eq_decide]; omega
theorem su_alt (c : Int32) : (hiP c || loP c) = decide (¬ c < 55296 ∧ c < 57344) := by
  simp only [hiP, loP, Int32.lt_iff_toInt_lt, Int32.reduceToInt, ← Bool.decide_or, decide_eq_decide]; omega
/-- the scan -/
def fu : List (Bool × Bool) → Nat → Int32
  | [], _ => -1
  | [u], i => if u.1 || u.2 then Int32.ofNat i else -1
  | u :: v :: r, i => if u.1 && v.2 then fu r (i + 2) else if u.1 || u.2 then Int32.ofNat i else fu (v :: r) (i + 1)
def kd (c : Int32) : Bool × Bool := (hiP c, loP c)
def upB (arr : List Int32) (n i : Nat) : Bool := decide (i < n) && ((hiP (arr.getD i 0) && !(decide (i + 1 < n) && loP (arr.getD (i + 1) 0))) || (!hiP (arr.getD i 0) && loP (arr.getD i 0) && !(decide (0 < i) && hiP (arr.getD (i - 1) 0))))
abbrev risH : Room := { frames := 0, cells := 0, slots := 0, locals := 0 }
set_option maxRecDepth 65536 in
set_option maxHeartbeats 4000000 in
theorem M_isH (l : Launch) (Z : State) (a0 : Array Value) (g : G Z a0) (h : Heap) (c : Int32) : wkM l Z bisH risH #[.int c] h [] (fun v h' os => v = some (.int (if hiP c then 1 else 0)) ∧ os = [] ∧ h = h') := by
  refine wkM.of #[.val (.int c)] (plainFor_of_name (by first | (simp [plainName, overriddenIn]; done) | decide +kernel)) (fun m => by first | rfl | (simp [entryFrame, mkF, argsToLocals, Value.category]; done)) ?_
  refine wkP.iloadN 1 disH_0 rfl rfl ?_
  refine wkP.ldcI 3 (w60 g.1) disH_1 rfl ?_
  by_cases q1 : c < (55296 : Int32)
  · refine wkP.icmpT 16 disH_3 (show c < (55296 : Int32) from q1) (by decide) (by decide) ?_
    refine wkP.iconst 17 (0 : Int32) disH_16 rfl rfl ?_
    exact wkP.retI .boolean [] g.2.1 disH_17 rfl (by simp) rfl (by decide) (by decide) (by simp) ⟨by unfold hiP; simp_all, rfl, rfl⟩
  · refine wkP.icmpF 6 disH_3 (show ¬ (c < (55296 : Int32)) from q1) rfl ?_
    refine wkP.iloadN 7 disH_6 rfl rfl ?_
    refine wkP.ldcI 9 (w114 g.1) disH_7 rfl ?_
    by_cases q2 : (56319 : Int32) < c
    · refine wkP.icmpT 16 disH_9 (show (56319 : Int32) < c from q2) (by decide) (by decide) ?_
      refine wkP.iconst 17 (0 : Int32) disH_16 rfl rfl ?_
      exact wkP.retI .boolean [] g.2.1 disH_17 rfl (by simp) rfl (by decide) (by decide) (by simp) ⟨by unfold hiP; simp_all, rfl, rfl⟩
    · refine wkP.icmpF 12 disH_9 (show ¬ ((56319 : Int32) < c) from q2) rfl ?_
      refine wkP.iconst 13 (1 : Int32) disH_12 rfl rfl ?_
      refine wkP.goto 17 disH_13 (by decide) (by decide) ?_
      exact wkP.retI .boolean [] g.2.1 disH_17 rfl (by simp) rfl (by decide) (by decide) (by simp) ⟨by unfold hiP; simp_all, rfl, rfl⟩
abbrev risL : Room := { frames := 0, cells := 0, slots := 0, locals := 0 }
set_option maxRecDepth 65536 in
set_option maxHeartbeats 4000000 in
theorem M_isL (l : Launch) (Z : State) (a0 : Array Value) (g : G Z a0) (h : Heap) (c : Int32) : wkM l Z bisL risL #[.int c] h [] (fun v h' os => v = some (.int (if loP c then 1 else 0)) ∧ os = [] ∧ h = h') := by
  refine wkM.of #[.val (.int c)] (plainFor_of_name (by first | (simp [plainName, overriddenIn]; done) | decide +kernel)) (fun m => by first | rfl | (simp [entryFrame, mkF, argsToLocals, Value.category]; done)) ?_
  refine wkP.iloadN 1 disL_0 rfl rfl ?_
  refine wkP.ldcI 3 (w64 g.1) disL_1 rfl ?_
  by_cases q1 : c < (56320 : Int32)
  · refine wkP.icmpT 16 disL_3 (show c < (56320 : Int32) from q1) (by decide) (by decide) ?_
    refine wkP.iconst 17 (0 : Int32) disL_16 rfl rfl ?_
    exact wkP.retI .boolean [] g.2.1 disL_17 rfl (by simp) rfl (by decide) (by decide) (by simp) ⟨by unfold loP; simp_all, rfl, rfl⟩
  · refine wkP.icmpF 6 disL_3 (show ¬ (c < (56320 : Int32)) from q1) rfl ?_
    refine wkP.iloadN 7 disL_6 rfl rfl ?_
    refine wkP.ldcI 9 (w115 g.1) disL_7 rfl ?_
    by_cases q2 : (57343 : Int32) < c
    · refine wkP.icmpT 16 disL_9 (show (57343 : Int32) < c from q2) (by decide) (by decide) ?_
      refine wkP.iconst 17 (0 : Int32) disL_16 rfl rfl ?_
      exact wkP.retI .boolean [] g.2.1 disL_17 rfl (by simp) rfl (by decide) (by decide) (by simp) ⟨by unfold loP; simp_all, rfl, rfl⟩
    · refine wkP.icmpF 12 disL_9 (show ¬ ((57343 : Int32) < c) from q2) rfl ?_
      refine wkP.iconst 13 (1 : Int32) disL_12 rfl rfl ?_
      refine wkP.goto 17 disL_13 (by decide) (by decide) ?_
      exact wkP.retI .boolean [] g.2.1 disL_17 rfl (by simp) rfl (by decide) (by decide) (by simp) ⟨by unfold loP; simp_all, rfl, rfl⟩
abbrev rcH : Room := { frames := 0, cells := 0, slots := 0, locals := 0 }
set_option maxRecDepth 65536 in
set_option maxHeartbeats 4000000 in
theorem M_cH (l : Launch) (Z : State) (a0 : Array Value) (g : G Z a0) (h : Heap) (c : Int32) : wkM l Z bcH rcH #[.int c] h [] (fun v h' os => v = some (.int (if hiP c then 1 else 0)) ∧ os = [] ∧ h = h') := by
  refine wkM.of #[.val (.int c)] (plainFor_of_name (by first | (simp [plainName, overriddenIn]; done) | decide +kernel)) (fun m => by first | rfl | (simp [entryFrame, mkF, argsToLocals, Value.category]; done)) ?_
  refine wkP.iloadN 1 dcH_0 rfl rfl ?_
  refine wkP.ldcI 3 (w91 g.1) dcH_1 rfl ?_
  by_cases q1 : c < (55296 : Int32)
  · refine wkP.icmpT 16 dcH_3 (show c < (55296 : Int32) from q1) (by decide) (by decide) ?_
    refine wkP.iconst 17 (0 : Int32) dcH_16 rfl rfl ?_
    exact wkP.retI .boolean [] g.2.1 dcH_17 rfl (by simp) rfl (by decide) (by decide) (by simp) ⟨by rw [hi_alt]; simp_all, rfl, rfl⟩
  · refine wkP.icmpF 6 dcH_3 (show ¬ (c < (55296 : Int32)) from q1) rfl ?_
    refine wkP.iloadN 7 dcH_6 rfl rfl ?_
    refine wkP.ldcI 9 (w126 g.1) dcH_7 rfl ?_
    by_cases q2 : c < (56320 : Int32)
    · refine wkP.icmpF 12 dcH_9 (show ¬ (¬ c < (56320 : Int32)) from (fun q => q q2)) rfl ?_
      refine wkP.iconst 13 (1 : Int32) dcH_12 rfl rfl ?_
      refine wkP.goto 17 dcH_13 (by decide) (by decide) ?_
      exact wkP.retI .boolean [] g.2.1 dcH_17 rfl (by simp) rfl (by decide) (by decide) (by simp) ⟨by rw [hi_alt]; simp_all, rfl, rfl⟩
    · refine wkP.icmpT 16 dcH_9 (show ¬ c < (56320 : Int32) from q2) (by decide) (by decide) ?_
      refine wkP.iconst 17 (0 : Int32) dcH_16 rfl rfl ?_
      exact wkP.retI .boolean [] g.2.1 dcH_17 rfl (by simp) rfl (by decide) (by decide) (by simp) ⟨by rw [hi_alt]; simp_all, rfl, rfl⟩
abbrev rcL : Room := { frames := 0, cells := 0, slots := 0, locals := 0 }
set_option maxRecDepth 65536 in
set_option maxHeartbeats 4000000 in
theorem M_cL (l : Launch) (Z : State) (a0 : Array Value) (g : G Z a0) (h : Heap) (c : Int32) : wkM l Z bcL rcL #[.int c] h [] (fun v h' os => v = some (.int (if loP c then 1 else 0)) ∧ os = [] ∧ h = h') := by
  refine wkM.of #[.val (.int c)] (plainFor_of_name (by first | (simp [plainName, overriddenIn]; done) | decide +kernel)) (fun m => by first | rfl | (simp [entryFrame, mkF, argsToLocals, Value.category]; done)) ?_
  refine wkP.iloadN 1 dcL_0 rfl rfl ?_
  refine wkP.ldcI 3 (w126 g.1) dcL_1 rfl ?_
  by_cases q1 : c < (56320 : Int32)
  · refine wkP.icmpT 16 dcL_3 (show c < (56320 : Int32) from q1) (by decide) (by decide) ?_
    refine wkP.iconst 17 (0 : Int32) dcL_16 rfl rfl ?_
    exact wkP.retI .boolean [] g.2.1 dcL_17 rfl (by simp) rfl (by decide) (by decide) (by simp) ⟨by rw [lo_alt]; simp_all, rfl, rfl⟩
  · refine wkP.icmpF 6 dcL_3 (show ¬ (c < (56320 : Int32)) from q1) rfl ?_
    refine wkP.iloadN 7 dcL_6 rfl rfl ?_
    refine wkP.ldcI 9 (w127 g.1) dcL_7 rfl ?_
    by_cases q2 : c < (57344 : Int32)
    · refine wkP.icmpF 12 dcL_9 (show ¬ (¬ c < (57344 : Int32)) from (fun q => q q2)) rfl ?_
      refine wkP.iconst 13 (1 : Int32) dcL_12 rfl rfl ?_
      refine wkP.goto 17 dcL_13 (by decide) (by decide) ?_
      exact wkP.retI .boolean [] g.2.1 dcL_17 rfl (by simp) rfl (by decide) (by decide) (by simp) ⟨by rw [lo_alt]; simp_all, rfl, rfl⟩
    · refine wkP.icmpT 16 dcL_9 (show ¬ c < (57344 : Int32) from q2) (by decide) (by decide) ?_
      refine wkP.iconst 17 (0 : Int32) dcL_16 rfl rfl ?_
      exact wkP.retI .boolean [] g.2.1 dcL_17 rfl (by simp) rfl (by decide) (by decide) (by simp) ⟨by rw [lo_alt]; simp_all, rfl, rfl⟩
abbrev rcS : Room := { frames := 0, cells := 0, slots := 0, locals := 0 }
set_option maxRecDepth 65536 in
set_option maxHeartbeats 4000000 in
theorem M_cS (l : Launch) (Z : State) (a0 : Array Value) (g : G Z a0) (h : Heap) (c : Int32) : wkM l Z bcS rcS #[.int c] h [] (fun v h' os => v = some (.int (if (hiP c || loP c) then 1 else 0)) ∧ os = [] ∧ h = h') := by
  refine wkM.of #[.val (.int c)] (plainFor_of_name (by first | (simp [plainName, overriddenIn]; done) | decide +kernel)) (fun m => by first | rfl | (simp [entryFrame, mkF, argsToLocals, Value.category]; done)) ?_
  refine wkP.iloadN 1 dcS_0 rfl rfl ?_
  refine wkP.ldcI 3 (w91 g.1) dcS_1 rfl ?_
  by_cases q1 : c < (55296 : Int32)
  · refine wkP.icmpT 16 dcS_3 (show c < (55296 : Int32) from q1) (by decide) (by decide) ?_
    refine wkP.iconst 17 (0 : Int32) dcS_16 rfl rfl ?_
    exact wkP.retI .boolean [] g.2.1 dcS_17 rfl (by simp) rfl (by decide) (by decide) (by simp) ⟨by rw [su_alt]; simp_all, rfl, rfl⟩
  · refine wkP.icmpF 6 dcS_3 (show ¬ (c < (55296 : Int32)) from q1) rfl ?_
    refine wkP.iloadN 7 dcS_6 rfl rfl ?_
    refine wkP.ldcI 9 (w127 g.1) dcS_7 rfl ?_
    by_cases q2 : c < (57344 : Int32)
    · refine wkP.icmpF 12 dcS_9 (show ¬ (¬ c < (57344 : Int32)) from (fun q => q q2)) rfl ?_
      refine wkP.iconst 13 (1 : Int32) dcS_12 rfl rfl ?_
      refine wkP.goto 17 dcS_13 (by decide) (by decide) ?_
      exact wkP.retI .boolean [] g.2.1 dcS_17 rfl (by simp) rfl (by decide) (by decide) (by simp) ⟨by rw [su_alt]; simp_all, rfl, rfl⟩
    · refine wkP.icmpT 16 dcS_9 (show ¬ c < (57344 : Int32) from q2) (by decide) (by decide) ?_
      refine wkP.iconst 17 (0 : Int32) dcS_16 rfl rfl ?_
      exact wkP.retI .boolean [] g.2.1 dcS_17 rfl (by simp) rfl (by decide) (by decide) (by simp) ⟨by rw [su_alt]; simp_all, rfl, rfl⟩
abbrev rdraw : Room := { frames := 0, cells := 0, slots := 0, locals := 0 }
theorem i2c_rng (x : Int32) : ¬ x.toUInt32.toUInt16.toUInt32.toInt32 < 0 ∧ ¬ 65535 < x.toUInt32.toUInt16.toUInt32.toInt32 := by
  have h := c_i2c x
  simp only [Int32.lt_iff_toInt_lt, Int32.reduceToInt]
  omega
set_option maxRecDepth 65536 in
set_option maxHeartbeats 4000000 in
theorem M_draw (l : Launch) (Z : State) (a0 : Array Value) (g : G Z a0) (h : Heap) (p : Int32) : wkM l Z bdraw rdraw #[.int p] h [] (fun v h' os => ∃ c, v = some (.int c) ∧ (¬ c < 0 ∧ ¬ 65535 < c) ∧ os = [] ∧ h = h') := by
  refine wkM.of #[.val (.int p), .unset] (plainFor_of_name (by first | (simp [plainName, overriddenIn]; done) | decide +kernel)) (fun m => by first | rfl | (simp [entryFrame, mkF, argsToLocals, Value.category]; done)) ?_
  obtain ⟨kn, hkn⟩ : ∃ z, (p.toUInt32 >>> ((16 : Int32) &&& 31).toUInt32).toInt32 &&& 3 = z := ⟨_, rfl⟩
  refine wkP.iloadN 1 ddraw_0 rfl rfl ?_
  refine wkP.bipush 3 (16 : Int32) ddraw_1 rfl rfl ?_
  refine wkP.iushr 4 ((p).toUInt32 >>> ((16 : Int32) &&& 31).toUInt32).toInt32 ddraw_3 rfl rfl ?_
  refine wkP.iconst 5 (3 : Int32) ddraw_4 rfl rfl ?_
  refine wkP.iand 6 kn ddraw_5 hkn rfl ?_
  refine wkP.istoreN 7 #[.val (.int p), .val (.int kn)] ddraw_6 rfl rfl ?_
  refine wkP.iloadN 8 ddraw_7 rfl rfl ?_
  refine wkP.iconst 9 (1 : Int32) ddraw_8 rfl rfl ?_
  by_cases q1 : kn = (1 : Int32)
  · refine wkP.icmpF 12 ddraw_9 (show ¬ (¬ kn = (1 : Int32)) from (fun q => q q1)) rfl ?_
    refine wkP.ldcI 14 (w60 g.1) ddraw_12 rfl ?_
    refine wkP.iloadN 15 ddraw_14 rfl rfl ?_
    refine wkP.sipush 18 (1023 : Int32) ddraw_15 rfl rfl ?_
    refine wkP.iand 19 (p &&& (1023 : Int32)) ddraw_18 rfl rfl ?_
    refine wkP.ior 20 ((55296 : Int32) ||| (p &&& (1023 : Int32))) ddraw_19 rfl rfl ?_
    refine wkP.i2c 21 (((55296 : Int32) ||| (p &&& (1023 : Int32)))).toUInt32.toUInt16.toUInt32.toInt32 ddraw_20 rfl rfl ?_
    exact wkP.retI .char [] g.2.1 ddraw_21 rfl (by simp) (by show Value.int (nar .char _) = _; rw [nar_c (i2c_rng _)]) (by decide) (by decide) (by simp) ⟨_, rfl, i2c_rng _, rfl, rfl⟩
  · refine wkP.icmpT 22 ddraw_9 (show ¬ kn = (1 : Int32) from q1) (by decide) (by decide) ?_
    refine wkP.iloadN 23 ddraw_22 rfl rfl ?_
    refine wkP.iconst 24 (2 : Int32) ddraw_23 rfl rfl ?_
    by_cases q2 : kn = (2 : Int32)
    · refine wkP.icmpF 27 ddraw_24 (show ¬ (¬ kn = (2 : Int32)) from (fun q => q q2)) rfl ?_
      refine wkP.ldcI 29 (w64 g.1) ddraw_27 rfl ?_
      refine wkP.iloadN 30 ddraw_29 rfl rfl ?_
      refine wkP.sipush 33 (1023 : Int32) ddraw_30 rfl rfl ?_
      refine wkP.iand 34 (p &&& (1023 : Int32)) ddraw_33 rfl rfl ?_
      refine wkP.ior 35 ((56320 : Int32) ||| (p &&& (1023 : Int32))) ddraw_34 rfl rfl ?_
      refine wkP.i2c 36 (((56320 : Int32) ||| (p &&& (1023 : Int32)))).toUInt32.toUInt16.toUInt32.toInt32 ddraw_35 rfl rfl ?_
      exact wkP.retI .char [] g.2.1 ddraw_36 rfl (by simp) (by show Value.int (nar .char _) = _; rw [nar_c (i2c_rng _)]) (by decide) (by decide) (by simp) ⟨_, rfl, i2c_rng _, rfl, rfl⟩
    · refine wkP.icmpT 37 ddraw_24 (show ¬ kn = (2 : Int32) from q2) (by decide) (by decide) ?_
      refine wkP.iloadN 38 ddraw_37 rfl rfl ?_
      refine wkP.i2c 39 (p).toUInt32.toUInt16.toUInt32.toInt32 ddraw_38 rfl rfl ?_
      exact wkP.retI .char [] g.2.1 ddraw_39 rfl (by simp) (by show Value.int (nar .char _) = _; rw [nar_c (i2c_rng _)]) (by decide) (by decide) (by simp) ⟨_, rfl, i2c_rng _, rfl, rfl⟩
abbrev rmake : Room := { frames := 6, cells := 6, slots := 24, locals := 88 }
set_option maxRecDepth 65536 in
set_option maxHeartbeats 4000000 in
theorem M_make0 (l : Launch) (Z : State) (a0 : Array Value) (g : G Z a0) (h : Heap) (b : Addr) (c0 c1 c2 c3 c4 : Int32) (F : Ia Z h b .char [c0, c1, c2, c3, c4]) (hk : chs [c0, c1, c2, c3, c4]) : wkM l Z bmake rmake #[.int 0, .ref b] h [] (fun v h' os => ∃ s t, v = some (.ref s) ∧ os = [] ∧ St Z h' s t []) := by
  have hlb := F.lt
  refine wkM.of #[.val (.int (0 : Int32)), .val (.ref b)] (plainFor_of_name (by first | (simp [plainName, overriddenIn]; done) | decide +kernel)) (fun m => by first | rfl | (simp [entryFrame, mkF, argsToLocals, Value.category]; done)) ?_
  refine wkP.iloadN 1 dmake_0 rfl rfl ?_
  refine wkP.ifF 4 dmake_1 (show ¬ (¬ (0 : Int32) = (0 : Int32)) from (by decide)) rfl ?_
  refine wkP.newO 7 (w8 g.1) (w9 g.1) (w10 g.1) dmake_4 (by decide) (by decide) rfl ?_
  intro h58 a58 g58 l58 K58 E58 D58 U58
  have z58 := K58.1
  have F59 := D58 (Or.inr (w24 g.1)) (ty := .byte) (by decide)
  have F60 := D58 (Or.inr (w23 g.1)) (ty := (.array .byte)) (by decide)
  refine wkP.dup 8 dmake_7 rfl rfl ?_
  refine wkP.iconst 9 (0 : Int32) dmake_8 rfl rfl ?_
  refine wkP.newP 11 .char 0 0 (w0 g.1) rfl rfl rfl dmake_9 rfl (by decide) (by decide) (by decide) (by decide) rfl ?_
  intro h61 a61 g61 l61 K61 A61
  have z61 := K61.1
  replace A61 : Ia Z h61 a61 .char [] := A61
  have hch : chs [] := by
    intro c hc
    simp only [List.mem_cons, List.not_mem_nil, or_false] at hc
  have E58_62 := (E58.keep K61)
  have F59_63 := (F59.keep K61 nn0)
  have F60_64 := (F60.keep K61 nn0)
  refine wkP.callI 14 (M_init1 l Z a0 g _ a58 a61 [] A61 hch (by simp) _ _ E58_62 F59_63 F60_64) [(.ref a61)] [(.ref a58)] 1 g.2.1 (w11 g.1) (w12 g.1) (w10 g.1) (w13 g.1) rfl rfl (by decide) dmake_11 (lenOf pd14 rfl) rfl rfl rfl (by simp) (Nat.le_of_eq rfl) (by decide) (by decide) (by decide) (by decide) rfl ?_
  rintro v65 h65 o65 ⟨d65, rfl, rfl, H65⟩ K65
  have z65 := K65.1
  exact wkP.retA (.object "java/lang/String") [] g.2.1 dmake_14 rfl rfl (by decide) (by decide) (by simp) ⟨a58, _, rfl, rfl, H65⟩
set_option maxRecDepth 65536 in
set_option maxHeartbeats 4000000 in
theorem M_make1 (l : Launch) (Z : State) (a0 : Array Value) (g : G Z a0) (h : Heap) (b : Addr) (c0 c1 c2 c3 c4 : Int32) (F : Ia Z h b .char [c0, c1, c2, c3, c4]) (hk : chs [c0, c1, c2, c3, c4]) : wkM l Z bmake rmake #[.int 1, .ref b] h [] (fun v h' os => ∃ s t, v = some (.ref s) ∧ os = [] ∧ St Z h' s t [c0]) := by
  have hlb := F.lt
  refine wkM.of #[.val (.int (1 : Int32)), .val (.ref b)] (plainFor_of_name (by first | (simp [plainName, overriddenIn]; done) | decide +kernel)) (fun m => by first | rfl | (simp [entryFrame, mkF, argsToLocals, Value.category]; done)) ?_
  refine wkP.iloadN 1 dmake_0 rfl rfl ?_
  refine wkP.ifT 15 dmake_1 (show ¬ (1 : Int32) = (0 : Int32) from (by decide)) (by decide) (by decide) ?_
  refine wkP.iloadN 16 dmake_15 rfl rfl ?_
  refine wkP.iconst 17 (1 : Int32) dmake_16 rfl rfl ?_
  refine wkP.icmpF 20 dmake_17 (show ¬ (¬ (1 : Int32) = (1 : Int32)) from (by decide)) rfl ?_
  refine wkP.newO 23 (w8 g.1) (w9 g.1) (w10 g.1) dmake_20 (by decide) (by decide) rfl ?_
  intro h66 a66 g66 l66 K66 E66 D66 U66
  have z66 := K66.1
  have F67 := D66 (Or.inr (w24 g.1)) (ty := .byte) (by decide)
  have F68 := D66 (Or.inr (w23 g.1)) (ty := (.array .byte)) (by decide)
  refine wkP.dup 24 dmake_23 rfl rfl ?_
  refine wkP.iconst 25 (1 : Int32) dmake_24 rfl rfl ?_
  refine wkP.newP 27 .char 1 1 (w0 g.1) rfl rfl rfl dmake_25 rfl (by decide) (by decide) (by decide) (by decide) rfl ?_
  intro h69 a69 g69 l69 K69 A69
  have z69 := K69.1
  replace A69 : Ia Z h69 a69 .char [(0 : Int32)] := A69
  refine wkP.dup 28 dmake_27 rfl rfl ?_
  refine wkP.iconst 29 (0 : Int32) dmake_28 rfl rfl ?_
  refine wkP.aloadN 30 dmake_29 rfl rfl rfl ?_
  refine wkP.iconst 31 (0 : Int32) dmake_30 rfl rfl ?_
  have F_70 := ((F.keep K66 nn0).keep K69 nn0)
  refine wkP.caload 32 0 c0 F_70 dmake_31 rfl rfl rfl ?_
  refine wkP.stC 33 0 c0 A69 dmake_32 rfl (by simp) (nar_c (hk c0 (by simp))) (by simp) rfl ?_
  intro h71 K71 A71
  have z71 := K71.1
  replace A71 : Ia Z h71 a69 .char [c0] := A71
  have hch : chs [c0] := by
    intro c hc
    simp only [List.mem_cons, List.not_mem_nil, or_false] at hc
    rcases hc with rfl
    · exact hk _ (by simp)
  have E66_72 := ((E66.keep K69).keep K71)
  have F67_73 := ((F67.keep K69 nn0).keep K71 (nnS (by omega) nn0))
  have F68_74 := ((F68.keep K69 nn0).keep K71 (nnS (by omega) nn0))
  refine wkP.callI 36 (M_init1 l Z a0 g _ a66 a69 [c0] A71 hch (by simp) _ _ E66_72 F67_73 F68_74) [(.ref a69)] [(.ref a66)] 1 g.2.1 (w11 g.1) (w12 g.1) (w10 g.1) (w13 g.1) rfl rfl (by decide) dmake_33 (lenOf pd14 rfl) rfl rfl rfl (by simp) (Nat.le_of_eq rfl) (by decide) (by decide) (by decide) (by decide) rfl ?_
  rintro v75 h75 o75 ⟨d75, rfl, rfl, H75⟩ K75
  have z75 := K75.1
  exact wkP.retA (.object "java/lang/String") [] g.2.1 dmake_36 rfl rfl (by decide) (by decide) (by simp) ⟨a66, _, rfl, rfl, H75⟩
set_option maxRecDepth 65536 in
set_option maxHeartbeats 4000000 in
theorem M_make2 (l : Launch) (Z : State) (a0 : Array Value) (g : G Z a0) (h : Heap) (b : Addr) (c0 c1 c2 c3 c4 : Int32) (F : Ia Z h b .char [c0, c1, c2, c3, c4]) (hk : chs [c0, c1, c2, c3, c4]) : wkM l Z bmake rmake #[.int 2, .ref b] h [] (fun v h' os => ∃ s t, v = some (.ref s) ∧ os = [] ∧ St Z h' s t [c0, c1]) := by
  have hlb := F.lt
  refine wkM.of #[.val (.int (2 : Int32)), .val (.ref b)] (plainFor_of_name (by first | (simp [plainName, overriddenIn]; done) | decide +kernel)) (fun m => by first | rfl | (simp [entryFrame, mkF, argsToLocals, Value.category]; done)) ?_
  refine wkP.iloadN 1 dmake_0 rfl rfl ?_
  refine wkP.ifT 15 dmake_1 (show ¬ (2 : Int32) = (0 : Int32) from (by decide)) (by decide) (by decide) ?_
  refine wkP.iloadN 16 dmake_15 rfl rfl ?_
  refine wkP.iconst 17 (1 : Int32) dmake_16 rfl rfl ?_
  refine wkP.icmpT 37 dmake_17 (show ¬ (2 : Int32) = (1 : Int32) from (by decide)) (by decide) (by decide) ?_
  refine wkP.iloadN 38 dmake_37 rfl rfl ?_
  refine wkP.iconst 39 (2 : Int32) dmake_38 rfl rfl ?_
  refine wkP.icmpF 42 dmake_39 (show ¬ (¬ (2 : Int32) = (2 : Int32)) from (by decide)) rfl ?_
  refine wkP.newO 45 (w8 g.1) (w9 g.1) (w10 g.1) dmake_42 (by decide) (by decide) rfl ?_
  intro h76 a76 g76 l76 K76 E76 D76 U76
  have z76 := K76.1
  have F77 := D76 (Or.inr (w24 g.1)) (ty := .byte) (by decide)
  have F78 := D76 (Or.inr (w23 g.1)) (ty := (.array .byte)) (by decide)
  refine wkP.dup 46 dmake_45 rfl rfl ?_
  refine wkP.iconst 47 (2 : Int32) dmake_46 rfl rfl ?_
  refine wkP.newP 49 .char 2 2 (w0 g.1) rfl rfl rfl dmake_47 rfl (by decide) (by decide) (by decide) (by decide) rfl ?_
  intro h79 a79 g79 l79 K79 A79
  have z79 := K79.1
  replace A79 : Ia Z h79 a79 .char [(0 : Int32), (0 : Int32)] := A79
  refine wkP.dup 50 dmake_49 rfl rfl ?_
  refine wkP.iconst 51 (0 : Int32) dmake_50 rfl rfl ?_
  refine wkP.aloadN 52 dmake_51 rfl rfl rfl ?_
  refine wkP.iconst 53 (0 : Int32) dmake_52 rfl rfl ?_
  have F_80 := ((F.keep K76 nn0).keep K79 nn0)
  refine wkP.caload 54 0 c0 F_80 dmake_53 rfl rfl rfl ?_
  refine wkP.stC 55 0 c0 A79 dmake_54 rfl (by simp) (nar_c (hk c0 (by simp))) (by simp) rfl ?_
  intro h81 K81 A81
  have z81 := K81.1
  replace A81 : Ia Z h81 a79 .char [c0, (0 : Int32)] := A81
  refine wkP.dup 56 dmake_55 rfl rfl ?_
  refine wkP.iconst 57 (1 : Int32) dmake_56 rfl rfl ?_
  refine wkP.aloadN 58 dmake_57 rfl rfl rfl ?_
  refine wkP.iconst 59 (1 : Int32) dmake_58 rfl rfl ?_
  have F_82 := (F_80.keep K81 (nnS (by omega) nn0))
  refine wkP.caload 60 1 c1 F_82 dmake_59 rfl rfl rfl ?_
  refine wkP.stC 61 1 c1 A81 dmake_60 rfl (by simp) (nar_c (hk c1 (by simp))) (by simp) rfl ?_
  intro h83 K83 A83
  have z83 := K83.1
  replace A83 : Ia Z h83 a79 .char [c0, c1] := A83
  have hch : chs [c0, c1] := by
    intro c hc
    simp only [List.mem_cons, List.not_mem_nil, or_false] at hc
    rcases hc with rfl | rfl
    · exact hk _ (by simp)
    · exact hk _ (by simp)
  have E76_84 := (((E76.keep K79).keep K81).keep K83)
  have F77_85 := (((F77.keep K79 nn0).keep K81 (nnS (by omega) nn0)).keep K83 (nnS (by omega) nn0))
  have F78_86 := (((F78.keep K79 nn0).keep K81 (nnS (by omega) nn0)).keep K83 (nnS (by omega) nn0))
  refine wkP.callI 64 (M_init1 l Z a0 g _ a76 a79 [c0, c1] A83 hch (by simp) _ _ E76_84 F77_85 F78_86) [(.ref a79)] [(.ref a76)] 1 g.2.1 (w11 g.1) (w12 g.1) (w10 g.1) (w13 g.1) rfl rfl (by decide) dmake_61 (lenOf pd14 rfl) rfl rfl rfl (by simp) (Nat.le_of_eq rfl) (by decide) (by decide) (by decide) (by decide) rfl ?_
  rintro v87 h87 o87 ⟨d87, rfl, rfl, H87⟩ K87
  have z87 := K87.1
  exact wkP.retA (.object "java/lang/String") [] g.2.1 dmake_64 rfl rfl (by decide) (by decide) (by simp) ⟨a76, _, rfl, rfl, H87⟩
set_option maxRecDepth 65536 in
set_option maxHeartbeats 4000000 in
theorem M_make3 (l : Launch) (Z : State) (a0 : Array Value) (g : G Z a0) (h : Heap) (b : Addr) (c0 c1 c2 c3 c4 : Int32) (F : Ia Z h b .char [c0, c1, c2, c3, c4]) (hk : chs [c0, c1, c2, c3, c4]) : wkM l Z bmake rmake #[.int 3, .ref b] h [] (fun v h' os => ∃ s t, v = some (.ref s) ∧ os = [] ∧ St Z h' s t [c0, c1, c2]) := by
  have hlb := F.lt
  refine wkM.of #[.val (.int (3 : Int32)), .val (.ref b)] (plainFor_of_name (by first | (simp [plainName, overriddenIn]; done) | decide +kernel)) (fun m => by first | rfl | (simp [entryFrame, mkF, argsToLocals, Value.category]; done)) ?_
  refine wkP.iloadN 1 dmake_0 rfl rfl ?_
  refine wkP.ifT 15 dmake_1 (show ¬ (3 : Int32) = (0 : Int32) from (by decide)) (by decide) (by decide) ?_
  refine wkP.iloadN 16 dmake_15 rfl rfl ?_
  refine wkP.iconst 17 (1 : Int32) dmake_16 rfl rfl ?_
  refine wkP.icmpT 37 dmake_17 (show ¬ (3 : Int32) = (1 : Int32) from (by decide)) (by decide) (by decide) ?_
  refine wkP.iloadN 38 dmake_37 rfl rfl ?_
  refine wkP.iconst 39 (2 : Int32) dmake_38 rfl rfl ?_
  refine wkP.icmpT 65 dmake_39 (show ¬ (3 : Int32) = (2 : Int32) from (by decide)) (by decide) (by decide) ?_
  refine wkP.iloadN 66 dmake_65 rfl rfl ?_
  refine wkP.iconst 67 (3 : Int32) dmake_66 rfl rfl ?_
  refine wkP.icmpF 70 dmake_67 (show ¬ (¬ (3 : Int32) = (3 : Int32)) from (by decide)) rfl ?_
  refine wkP.newO 73 (w8 g.1) (w9 g.1) (w10 g.1) dmake_70 (by decide) (by decide) rfl ?_
  intro h88 a88 g88 l88 K88 E88 D88 U88
  have z88 := K88.1
  have F89 := D88 (Or.inr (w24 g.1)) (ty := .byte) (by decide)
  have F90 := D88 (Or.inr (w23 g.1)) (ty := (.array .byte)) (by decide)
  refine wkP.dup 74 dmake_73 rfl rfl ?_
  refine wkP.iconst 75 (3 : Int32) dmake_74 rfl rfl ?_
  refine wkP.newP 77 .char 3 3 (w0 g.1) rfl rfl rfl dmake_75 rfl (by decide) (by decide) (by decide) (by decide) rfl ?_
  intro h91 a91 g91 l91 K91 A91
  have z91 := K91.1
  replace A91 : Ia Z h91 a91 .char [(0 : Int32), (0 : Int32), (0 : Int32)] := A91
  refine wkP.dup 78 dmake_77 rfl rfl ?_
  refine wkP.iconst 79 (0 : Int32) dmake_78 rfl rfl ?_
  refine wkP.aloadN 80 dmake_79 rfl rfl rfl ?_
  refine wkP.iconst 81 (0 : Int32) dmake_80 rfl rfl ?_
  have F_92 := ((F.keep K88 nn0).keep K91 nn0)
  refine wkP.caload 82 0 c0 F_92 dmake_81 rfl rfl rfl ?_
  refine wkP.stC 83 0 c0 A91 dmake_82 rfl (by simp) (nar_c (hk c0 (by simp))) (by simp) rfl ?_
  intro h93 K93 A93
  have z93 := K93.1
  replace A93 : Ia Z h93 a91 .char [c0, (0 : Int32), (0 : Int32)] := A93
  refine wkP.dup 84 dmake_83 rfl rfl ?_
  refine wkP.iconst 85 (1 : Int32) dmake_84 rfl rfl ?_
  refine wkP.aloadN 86 dmake_85 rfl rfl rfl ?_
  refine wkP.iconst 87 (1 : Int32) dmake_86 rfl rfl ?_
  have F_94 := (F_92.keep K93 (nnS (by omega) nn0))
  refine wkP.caload 88 1 c1 F_94 dmake_87 rfl rfl rfl ?_
  refine wkP.stC 89 1 c1 A93 dmake_88 rfl (by simp) (nar_c (hk c1 (by simp))) (by simp) rfl ?_
  intro h95 K95 A95
  have z95 := K95.1
  replace A95 : Ia Z h95 a91 .char [c0, c1, (0 : Int32)] := A95
  refine wkP.dup 90 dmake_89 rfl rfl ?_
  refine wkP.iconst 91 (2 : Int32) dmake_90 rfl rfl ?_
  refine wkP.aloadN 92 dmake_91 rfl rfl rfl ?_
  refine wkP.iconst 93 (2 : Int32) dmake_92 rfl rfl ?_
  have F_96 := (F_94.keep K95 (nnS (by omega) nn0))
  refine wkP.caload 94 2 c2 F_96 dmake_93 rfl rfl rfl ?_
  refine wkP.stC 95 2 c2 A95 dmake_94 rfl (by simp) (nar_c (hk c2 (by simp))) (by simp) rfl ?_
  intro h97 K97 A97
  have z97 := K97.1
  replace A97 : Ia Z h97 a91 .char [c0, c1, c2] := A97
  have hch : chs [c0, c1, c2] := by
    intro c hc
    simp only [List.mem_cons, List.not_mem_nil, or_false] at hc
    rcases hc with rfl | rfl | rfl
    · exact hk _ (by simp)
    · exact hk _ (by simp)
    · exact hk _ (by simp)
  have E88_98 := ((((E88.keep K91).keep K93).keep K95).keep K97)
  have F89_99 := ((((F89.keep K91 nn0).keep K93 (nnS (by omega) nn0)).keep K95 (nnS (by omega) nn0)).keep K97 (nnS (by omega) nn0))
  have F90_100 := ((((F90.keep K91 nn0).keep K93 (nnS (by omega) nn0)).keep K95 (nnS (by omega) nn0)).keep K97 (nnS (by omega) nn0))
  refine wkP.callI 98 (M_init1 l Z a0 g _ a88 a91 [c0, c1, c2] A97 hch (by simp) _ _ E88_98 F89_99 F90_100) [(.ref a91)] [(.ref a88)] 1 g.2.1 (w11 g.1) (w12 g.1) (w10 g.1) (w13 g.1) rfl rfl (by decide) dmake_95 (lenOf pd14 rfl) rfl rfl rfl (by simp) (Nat.le_of_eq rfl) (by decide) (by decide) (by decide) (by decide) rfl ?_
  rintro v101 h101 o101 ⟨d101, rfl, rfl, H101⟩ K101
  have z101 := K101.1
  exact wkP.retA (.object "java/lang/String") [] g.2.1 dmake_98 rfl rfl (by decide) (by decide) (by simp) ⟨a88, _, rfl, rfl, H101⟩
set_option maxRecDepth 65536 in
set_option maxHeartbeats 4000000 in
theorem M_make4 (l : Launch) (Z : State) (a0 : Array Value) (g : G Z a0) (h : Heap) (b : Addr) (c0 c1 c2 c3 c4 : Int32) (F : Ia Z h b .char [c0, c1, c2, c3, c4]) (hk : chs [c0, c1, c2, c3, c4]) : wkM l Z bmake rmake #[.int 4, .ref b] h [] (fun v h' os => ∃ s t, v = some (.ref s) ∧ os = [] ∧ St Z h' s t [c0, c1, c2, c3]) := by
  have hlb := F.lt
  refine wkM.of #[.val (.int (4 : Int32)), .val (.ref b)] (plainFor_of_name (by first | (simp [plainName, overriddenIn]; done) | decide +kernel)) (fun m => by first | rfl | (simp [entryFrame, mkF, argsToLocals, Value.category]; done)) ?_
  refine wkP.iloadN 1 dmake_0 rfl rfl ?_
  refine wkP.ifT 15 dmake_1 (show ¬ (4 : Int32) = (0 : Int32) from (by decide)) (by decide) (by decide) ?_
  refine wkP.iloadN 16 dmake_15 rfl rfl ?_
  refine wkP.iconst 17 (1 : Int32) dmake_16 rfl rfl ?_
  refine wkP.icmpT 37 dmake_17 (show ¬ (4 : Int32) = (1 : Int32) from (by decide)) (by decide) (by decide) ?_
  refine wkP.iloadN 38 dmake_37 rfl rfl ?_
  refine wkP.iconst 39 (2 : Int32) dmake_38 rfl rfl ?_
  refine wkP.icmpT 65 dmake_39 (show ¬ (4 : Int32) = (2 : Int32) from (by decide)) (by decide) (by decide) ?_
  refine wkP.iloadN 66 dmake_65 rfl rfl ?_
  refine wkP.iconst 67 (3 : Int32) dmake_66 rfl rfl ?_
  refine wkP.icmpT 99 dmake_67 (show ¬ (4 : Int32) = (3 : Int32) from (by decide)) (by decide) (by decide) ?_
  refine wkP.iloadN 100 dmake_99 rfl rfl ?_
  refine wkP.iconst 101 (4 : Int32) dmake_100 rfl rfl ?_
  refine wkP.icmpF 104 dmake_101 (show ¬ (¬ (4 : Int32) = (4 : Int32)) from (by decide)) rfl ?_
  refine wkP.newO 107 (w8 g.1) (w9 g.1) (w10 g.1) dmake_104 (by decide) (by decide) rfl ?_
  intro h102 a102 g102 l102 K102 E102 D102 U102
  have z102 := K102.1
  have F103 := D102 (Or.inr (w24 g.1)) (ty := .byte) (by decide)
  have F104 := D102 (Or.inr (w23 g.1)) (ty := (.array .byte)) (by decide)
  refine wkP.dup 108 dmake_107 rfl rfl ?_
  refine wkP.iconst 109 (4 : Int32) dmake_108 rfl rfl ?_
  refine wkP.newP 111 .char 4 4 (w0 g.1) rfl rfl rfl dmake_109 rfl (by decide) (by decide) (by decide) (by decide) rfl ?_
  intro h105 a105 g105 l105 K105 A105
  have z105 := K105.1
  replace A105 : Ia Z h105 a105 .char [(0 : Int32), (0 : Int32), (0 : Int32), (0 : Int32)] := A105
  refine wkP.dup 112 dmake_111 rfl rfl ?_
  refine wkP.iconst 113 (0 : Int32) dmake_112 rfl rfl ?_
  refine wkP.aloadN 114 dmake_113 rfl rfl rfl ?_
  refine wkP.iconst 115 (0 : Int32) dmake_114 rfl rfl ?_
  have F_106 := ((F.keep K102 nn0).keep K105 nn0)
  refine wkP.caload 116 0 c0 F_106 dmake_115 rfl rfl rfl ?_
  refine wkP.stC 117 0 c0 A105 dmake_116 rfl (by simp) (nar_c (hk c0 (by simp))) (by simp) rfl ?_
  intro h107 K107 A107
  have z107 := K107.1
  replace A107 : Ia Z h107 a105 .char [c0, (0 : Int32), (0 : Int32), (0 : Int32)] := A107
  refine wkP.dup 118 dmake_117 rfl rfl ?_
  refine wkP.iconst 119 (1 : Int32) dmake_118 rfl rfl ?_
  refine wkP.aloadN 120 dmake_119 rfl rfl rfl ?_
  refine wkP.iconst 121 (1 : Int32) dmake_120 rfl rfl ?_
  have F_108 := (F_106.keep K107 (nnS (by omega) nn0))
  refine wkP.caload 122 1 c1 F_108 dmake_121 rfl rfl rfl ?_
  refine wkP.stC 123 1 c1 A107 dmake_122 rfl (by simp) (nar_c (hk c1 (by simp))) (by simp) rfl ?_
  intro h109 K109 A109
  have z109 := K109.1
  replace A109 : Ia Z h109 a105 .char [c0, c1, (0 : Int32), (0 : Int32)] := A109
  refine wkP.dup 124 dmake_123 rfl rfl ?_
  refine wkP.iconst 125 (2 : Int32) dmake_124 rfl rfl ?_
  refine wkP.aloadN 126 dmake_125 rfl rfl rfl ?_
  refine wkP.iconst 127 (2 : Int32) dmake_126 rfl rfl ?_
  have F_110 := (F_108.keep K109 (nnS (by omega) nn0))
  refine wkP.caload 128 2 c2 F_110 dmake_127 rfl rfl rfl ?_
  refine wkP.stC 129 2 c2 A109 dmake_128 rfl (by simp) (nar_c (hk c2 (by simp))) (by simp) rfl ?_
  intro h111 K111 A111
  have z111 := K111.1
  replace A111 : Ia Z h111 a105 .char [c0, c1, c2, (0 : Int32)] := A111
  refine wkP.dup 130 dmake_129 rfl rfl ?_
  refine wkP.iconst 131 (3 : Int32) dmake_130 rfl rfl ?_
  refine wkP.aloadN 132 dmake_131 rfl rfl rfl ?_
  refine wkP.iconst 133 (3 : Int32) dmake_132 rfl rfl ?_
  have F_112 := (F_110.keep K111 (nnS (by omega) nn0))
  refine wkP.caload 134 3 c3 F_112 dmake_133 rfl rfl rfl ?_
  refine wkP.stC 135 3 c3 A111 dmake_134 rfl (by simp) (nar_c (hk c3 (by simp))) (by simp) rfl ?_
  intro h113 K113 A113
  have z113 := K113.1
  replace A113 : Ia Z h113 a105 .char [c0, c1, c2, c3] := A113
  have hch : chs [c0, c1, c2, c3] := by
    intro c hc
    simp only [List.mem_cons, List.not_mem_nil, or_false] at hc
    rcases hc with rfl | rfl | rfl | rfl
    · exact hk _ (by simp)
    · exact hk _ (by simp)
    · exact hk _ (by simp)
    · exact hk _ (by simp)
  have E102_114 := (((((E102.keep K105).keep K107).keep K109).keep K111).keep K113)
  have F103_115 := (((((F103.keep K105 nn0).keep K107 (nnS (by omega) nn0)).keep K109 (nnS (by omega) nn0)).keep K111 (nnS (by omega) nn0)).keep K113 (nnS (by omega) nn0))
  have F104_116 := (((((F104.keep K105 nn0).keep K107 (nnS (by omega) nn0)).keep K109 (nnS (by omega) nn0)).keep K111 (nnS (by omega) nn0)).keep K113 (nnS (by omega) nn0))
  refine wkP.callI 138 (M_init1 l Z a0 g _ a102 a105 [c0, c1, c2, c3] A113 hch (by simp) _ _ E102_114 F103_115 F104_116) [(.ref a105)] [(.ref a102)] 1 g.2.1 (w11 g.1) (w12 g.1) (w10 g.1) (w13 g.1) rfl rfl (by decide) dmake_135 (lenOf pd14 rfl) rfl rfl rfl (by simp) (Nat.le_of_eq rfl) (by decide) (by decide) (by decide) (by decide) rfl ?_
  rintro v117 h117 o117 ⟨d117, rfl, rfl, H117⟩ K117
  have z117 := K117.1
  exact wkP.retA (.object "java/lang/String") [] g.2.1 dmake_138 rfl rfl (by decide) (by decide) (by simp) ⟨a102, _, rfl, rfl, H117⟩
set_option maxRecDepth 65536 in
set_option maxHeartbeats 4000000 in
theorem M_make5 (l : Launch) (Z : State) (a0 : Array Value) (g : G Z a0) (h : Heap) (b : Addr) (c0 c1 c2 c3 c4 : Int32) (F : Ia Z h b .char [c0, c1, c2, c3, c4]) (hk : chs [c0, c1, c2, c3, c4]) : wkM l Z bmake rmake #[.int 5, .ref b] h [] (fun v h' os => ∃ s t, v = some (.ref s) ∧ os = [] ∧ St Z h' s t [c0, c1, c2, c3, c4]) := by
  have hlb := F.lt
  refine wkM.of #[.val (.int (5 : Int32)), .val (.ref b)] (plainFor_of_name (by first | (simp [plainName, overriddenIn]; done) | decide +kernel)) (fun m => by first | rfl | (simp [entryFrame, mkF, argsToLocals, Value.category]; done)) ?_
  refine wkP.iloadN 1 dmake_0 rfl rfl ?_
  refine wkP.ifT 15 dmake_1 (show ¬ (5 : Int32) = (0 : Int32) from (by decide)) (by decide) (by decide) ?_
  refine wkP.iloadN 16 dmake_15 rfl rfl ?_
  refine wkP.iconst 17 (1 : Int32) dmake_16 rfl rfl ?_
  refine wkP.icmpT 37 dmake_17 (show ¬ (5 : Int32) = (1 : Int32) from (by decide)) (by decide) (by decide) ?_
  refine wkP.iloadN 38 dmake_37 rfl rfl ?_
  refine wkP.iconst 39 (2 : Int32) dmake_38 rfl rfl ?_
  refine wkP.icmpT 65 dmake_39 (show ¬ (5 : Int32) = (2 : Int32) from (by decide)) (by decide) (by decide) ?_
  refine wkP.iloadN 66 dmake_65 rfl rfl ?_
  refine wkP.iconst 67 (3 : Int32) dmake_66 rfl rfl ?_
  refine wkP.icmpT 99 dmake_67 (show ¬ (5 : Int32) = (3 : Int32) from (by decide)) (by decide) (by decide) ?_
  refine wkP.iloadN 100 dmake_99 rfl rfl ?_
  refine wkP.iconst 101 (4 : Int32) dmake_100 rfl rfl ?_
  refine wkP.icmpT 139 dmake_101 (show ¬ (5 : Int32) = (4 : Int32) from (by decide)) (by decide) (by decide) ?_
  refine wkP.newO 142 (w8 g.1) (w9 g.1) (w10 g.1) dmake_139 (by decide) (by decide) rfl ?_
  intro h118 a118 g118 l118 K118 E118 D118 U118
  have z118 := K118.1
  have F119 := D118 (Or.inr (w24 g.1)) (ty := .byte) (by decide)
  have F120 := D118 (Or.inr (w23 g.1)) (ty := (.array .byte)) (by decide)
  refine wkP.dup 143 dmake_142 rfl rfl ?_
  refine wkP.iconst 144 (5 : Int32) dmake_143 rfl rfl ?_
  refine wkP.newP 146 .char 5 5 (w0 g.1) rfl rfl rfl dmake_144 rfl (by decide) (by decide) (by decide) (by decide) rfl ?_
  intro h121 a121 g121 l121 K121 A121
  have z121 := K121.1
  replace A121 : Ia Z h121 a121 .char [(0 : Int32), (0 : Int32), (0 : Int32), (0 : Int32), (0 : Int32)] := A121
  refine wkP.dup 147 dmake_146 rfl rfl ?_
  refine wkP.iconst 148 (0 : Int32) dmake_147 rfl rfl ?_
  refine wkP.aloadN 149 dmake_148 rfl rfl rfl ?_
  refine wkP.iconst 150 (0 : Int32) dmake_149 rfl rfl ?_
  have F_122 := ((F.keep K118 nn0).keep K121 nn0)
  refine wkP.caload 151 0 c0 F_122 dmake_150 rfl rfl rfl ?_
  refine wkP.stC 152 0 c0 A121 dmake_151 rfl (by simp) (nar_c (hk c0 (by simp))) (by simp) rfl ?_
  intro h123 K123 A123
  have z123 := K123.1
  replace A123 : Ia Z h123 a121 .char [c0, (0 : Int32), (0 : Int32), (0 : Int32), (0 : Int32)] := A123
  refine wkP.dup 153 dmake_152 rfl rfl ?_
  refine wkP.iconst 154 (1 : Int32) dmake_153 rfl rfl ?_
  refine wkP.aloadN 155 dmake_154 rfl rfl rfl ?_
  refine wkP.iconst 156 (1 : Int32) dmake_155 rfl rfl ?_
  have F_124 := (F_122.keep K123 (nnS (by omega) nn0))
  refine wkP.caload 157 1 c1 F_124 dmake_156 rfl rfl rfl ?_
  refine wkP.stC 158 1 c1 A123 dmake_157 rfl (by simp) (nar_c (hk c1 (by simp))) (by simp) rfl ?_
  intro h125 K125 A125
  have z125 := K125.1
  replace A125 : Ia Z h125 a121 .char [c0, c1, (0 : Int32), (0 : Int32), (0 : Int32)] := A125
  refine wkP.dup 159 dmake_158 rfl rfl ?_
  refine wkP.iconst 160 (2 : Int32) dmake_159 rfl rfl ?_
  refine wkP.aloadN 161 dmake_160 rfl rfl rfl ?_
  refine wkP.iconst 162 (2 : Int32) dmake_161 rfl rfl ?_
  have F_126 := (F_124.keep K125 (nnS (by omega) nn0))
  refine wkP.caload 163 2 c2 F_126 dmake_162 rfl rfl rfl ?_
  refine wkP.stC 164 2 c2 A125 dmake_163 rfl (by simp) (nar_c (hk c2 (by simp))) (by simp) rfl ?_
  intro h127 K127 A127
  have z127 := K127.1
  replace A127 : Ia Z h127 a121 .char [c0, c1, c2, (0 : Int32), (0 : Int32)] := A127
  refine wkP.dup 165 dmake_164 rfl rfl ?_
  refine wkP.iconst 166 (3 : Int32) dmake_165 rfl rfl ?_
  refine wkP.aloadN 167 dmake_166 rfl rfl rfl ?_
  refine wkP.iconst 168 (3 : Int32) dmake_167 rfl rfl ?_
  have F_128 := (F_126.keep K127 (nnS (by omega) nn0))
  refine wkP.caload 169 3 c3 F_128 dmake_168 rfl rfl rfl ?_
  refine wkP.stC 170 3 c3 A127 dmake_169 rfl (by simp) (nar_c (hk c3 (by simp))) (by simp) rfl ?_
  intro h129 K129 A129
  have z129 := K129.1
  replace A129 : Ia Z h129 a121 .char [c0, c1, c2, c3, (0 : Int32)] := A129
  refine wkP.dup 171 dmake_170 rfl rfl ?_
  refine wkP.iconst 172 (4 : Int32) dmake_171 rfl rfl ?_
  refine wkP.aloadN 173 dmake_172 rfl rfl rfl ?_
  refine wkP.iconst 174 (4 : Int32) dmake_173 rfl rfl ?_
  have F_130 := (F_128.keep K129 (nnS (by omega) nn0))
  refine wkP.caload 175 4 c4 F_130 dmake_174 rfl rfl rfl ?_
  refine wkP.stC 176 4 c4 A129 dmake_175 rfl (by simp) (nar_c (hk c4 (by simp))) (by simp) rfl ?_
  intro h131 K131 A131
  have z131 := K131.1
  replace A131 : Ia Z h131 a121 .char [c0, c1, c2, c3, c4] := A131
  have hch : chs [c0, c1, c2, c3, c4] := by
    intro c hc
    simp only [List.mem_cons, List.not_mem_nil, or_false] at hc
    rcases hc with rfl | rfl | rfl | rfl | rfl
    · exact hk _ (by simp)
    · exact hk _ (by simp)
    · exact hk _ (by simp)
    · exact hk _ (by simp)
    · exact hk _ (by simp)
  have E118_132 := ((((((E118.keep K121).keep K123).keep K125).keep K127).keep K129).keep K131)
  have F119_133 := ((((((F119.keep K121 nn0).keep K123 (nnS (by omega) nn0)).keep K125 (nnS (by omega) nn0)).keep K127 (nnS (by omega) nn0)).keep K129 (nnS (by omega) nn0)).keep K131 (nnS (by omega) nn0))
  have F120_134 := ((((((F120.keep K121 nn0).keep K123 (nnS (by omega) nn0)).keep K125 (nnS (by omega) nn0)).keep K127 (nnS (by omega) nn0)).keep K129 (nnS (by omega) nn0)).keep K131 (nnS (by omega) nn0))
  refine wkP.callI 179 (M_init1 l Z a0 g _ a118 a121 [c0, c1, c2, c3, c4] A131 hch (by simp) _ _ E118_132 F119_133 F120_134) [(.ref a121)] [(.ref a118)] 1 g.2.1 (w11 g.1) (w12 g.1) (w10 g.1) (w13 g.1) rfl rfl (by decide) dmake_176 (lenOf pd14 rfl) rfl rfl rfl (by simp) (Nat.le_of_eq rfl) (by decide) (by decide) (by decide) (by decide) rfl ?_
  rintro v135 h135 o135 ⟨d135, rfl, rfl, H135⟩ K135
  have z135 := K135.1
  exact wkP.retA (.object "java/lang/String") [] g.2.1 dmake_179 rfl rfl (by decide) (by decide) (by simp) ⟨a118, _, rfl, rfl, H135⟩
abbrev rupA : Room := { frames := 1, cells := 0, slots := 0, locals := 12 }
theorem dec1 {i : Nat} (h : 0 < i) : Int32.ofNat i - 1 = Int32.ofNat (i - 1) := by
  have := dec_ofNat (i - 1)
  rwa [show i - 1 + 1 = i by omega] at this
set_option maxRecDepth 65536 in
set_option maxHeartbeats 4000000 in
theorem M_upA (l : Launch) (Z : State) (a0 : Array Value) (g : G Z a0) (h : Heap) (b : Addr) (arr : List Int32) (n i : Nat) (F : Ia Z h b .char arr) (hn : n ≤ arr.length) (hi : i < 1000) : wkM l Z bupA rupA #[.ref b, .int (Int32.ofNat n), .int (Int32.ofNat i)] h [] (fun v h' os => v = some (.int (if upB arr n i then 1 else 0)) ∧ os = [] ∧ h = h') := by
  refine wkM.of #[.val (.ref b), .val (.int (Int32.ofNat n)), .val (.int (Int32.ofNat i)), .unset] (plainFor_of_name (by first | (simp [plainName, overriddenIn]; done) | decide +kernel)) (fun m => by first | rfl | (simp [entryFrame, mkF, argsToLocals, Value.category]; done)) ?_
  have hL := F.len
  have hn31 : n < 2 ^ 31 := by omega
  have hi31 : i + 1 < 2 ^ 31 := by omega
  refine wkP.iloadN 1 dupA_0 rfl rfl ?_
  refine wkP.iloadN 2 dupA_1 rfl rfl ?_
  by_cases hin : i < n
  · refine wkP.icmpT 7 dupA_2 (show (Int32.ofNat i) < (Int32.ofNat n) from ((ofNat_lt (by omega) hn31).mpr hin)) (by decide) (by decide) ?_
    refine wkP.aloadN 8 dupA_7 rfl rfl rfl ?_
    refine wkP.iloadN 9 dupA_8 rfl rfl ?_
    obtain ⟨u, hu⟩ : ∃ x, arr[i]? = some x := ⟨_, List.getElem?_eq_getElem (show i < arr.length by omega)⟩
    have du : arr.getD (i) 0 = u := by simp [List.getD_eq_getElem?_getD, hu]
    refine wkP.caload 10 i u F dupA_9 (toI (by omega)) hu rfl ?_
    refine wkP.istoreN 11 #[.val (.ref b), .val (.int (Int32.ofNat n)), .val (.int (Int32.ofNat i)), .val (.int u)] dupA_10 rfl rfl ?_
    refine wkP.iloadN 12 dupA_11 rfl rfl ?_
    refine wkP.callS 15 (M_isH l Z a0 g _ u) [(.int u)] [] 0 g.2.1 (w57 g.1) (w58 g.1) (w3 g.1) (w59 g.1) (by decide) dupA_12 (lenOf pd15 rfl) rfl rfl rfl (by simp) (Nat.le_of_eq rfl) (by decide) (by decide) (by decide) (by decide) rfl ?_
    rintro v136 _ o136 ⟨rfl, rfl, rfl⟩ K136
    by_cases hh : hiP u = true
    · refine wkP.ifF 18 dupA_15 (show ¬ ((if hiP u then 1 else 0) = (0 : Int32)) from (by rw [if_pos hh]; decide)) rfl ?_
      refine wkP.iloadN 19 dupA_18 rfl rfl ?_
      refine wkP.iconst 20 (1 : Int32) dupA_19 rfl rfl ?_
      refine wkP.iadd 21 (Int32.ofNat (i + 1)) dupA_20 (inc1 i) rfl ?_
      refine wkP.iloadN 22 dupA_21 rfl rfl ?_
      by_cases hin1 : i + 1 < n
      · refine wkP.icmpF 25 dupA_22 (show ¬ (¬ (Int32.ofNat (i + 1)) < (Int32.ofNat n)) from (fun q => q ((ofNat_lt hi31 hn31).mpr hin1))) rfl ?_
        refine wkP.aloadN 26 dupA_25 rfl rfl rfl ?_
        refine wkP.iloadN 27 dupA_26 rfl rfl ?_
        refine wkP.iconst 28 (1 : Int32) dupA_27 rfl rfl ?_
        refine wkP.iadd 29 (Int32.ofNat (i + 1)) dupA_28 (inc1 i) rfl ?_
        obtain ⟨v, hv⟩ : ∃ x, arr[i + 1]? = some x := ⟨_, List.getElem?_eq_getElem (show i + 1 < arr.length by omega)⟩
        have dv : arr.getD (i + 1) 0 = v := by simp [List.getD_eq_getElem?_getD, hv]
        refine wkP.caload 30 (i + 1) v F dupA_29 (toI (by omega)) hv rfl ?_
        refine wkP.callS 33 (M_isL l Z a0 g _ v) [(.int v)] [] 0 g.2.1 (w61 g.1) (w62 g.1) (w3 g.1) (w63 g.1) (by decide) dupA_30 (lenOf pd15 rfl) rfl rfl rfl (by simp) (Nat.le_of_eq rfl) (by decide) (by decide) (by decide) (by decide) rfl ?_
        rintro v137 _ o137 ⟨rfl, rfl, rfl⟩ K137
        by_cases hw1 : loP v = true
        · refine wkP.ifT 40 dupA_33 (show ¬ (if loP v then 1 else 0) = (0 : Int32) from (by rw [if_pos hw1]; decide)) (by decide) (by decide) ?_
          refine wkP.iconst 41 (0 : Int32) dupA_40 rfl rfl ?_
          exact wkP.retI .boolean [] g.2.1 dupA_41 rfl (by simp) rfl (by decide) (by decide) (by simp) ⟨by unfold upB; simp_all, rfl, rfl⟩
        · refine wkP.ifF 36 dupA_33 (show ¬ (¬ (if loP v then 1 else 0) = (0 : Int32)) from (by rw [if_neg hw1]; decide)) rfl ?_
          refine wkP.iconst 37 (1 : Int32) dupA_36 rfl rfl ?_
          refine wkP.goto 41 dupA_37 (by decide) (by decide) ?_
          exact wkP.retI .boolean [] g.2.1 dupA_41 rfl (by simp) rfl (by decide) (by decide) (by simp) ⟨by unfold upB; simp_all, rfl, rfl⟩
      · refine wkP.icmpT 36 dupA_22 (show ¬ (Int32.ofNat (i + 1)) < (Int32.ofNat n) from (fun q => hin1 ((ofNat_lt hi31 hn31).mp q))) (by decide) (by decide) ?_
        refine wkP.iconst 37 (1 : Int32) dupA_36 rfl rfl ?_
        refine wkP.goto 41 dupA_37 (by decide) (by decide) ?_
        exact wkP.retI .boolean [] g.2.1 dupA_41 rfl (by simp) rfl (by decide) (by decide) (by simp) ⟨by unfold upB; simp_all, rfl, rfl⟩
    · refine wkP.ifT 42 dupA_15 (show (if hiP u then 1 else 0) = (0 : Int32) from (by rw [if_neg hh])) (by decide) (by decide) ?_
      refine wkP.iloadN 43 dupA_42 rfl rfl ?_
      refine wkP.callS 46 (M_isL l Z a0 g _ u) [(.int u)] [] 0 g.2.1 (w61 g.1) (w62 g.1) (w3 g.1) (w63 g.1) (by decide) dupA_43 (lenOf pd15 rfl) rfl rfl rfl (by simp) (Nat.le_of_eq rfl) (by decide) (by decide) (by decide) (by decide) rfl ?_
      rintro v138 _ o138 ⟨rfl, rfl, rfl⟩ K138
      by_cases hw1 : loP u = true
      · refine wkP.ifF 49 dupA_46 (show ¬ ((if loP u then 1 else 0) = (0 : Int32)) from (by rw [if_pos hw1]; decide)) rfl ?_
        refine wkP.iloadN 50 dupA_49 rfl rfl ?_
        by_cases hi0 : 0 < i
        · refine wkP.ifF 53 dupA_50 (show ¬ (¬ (0 : Int32) < (Int32.ofNat i)) from (fun q => q (by rw [Int32.lt_iff_toInt_lt, toI (show i < 2 ^ 31 by omega)]; simp; omega))) rfl ?_
          refine wkP.aloadN 54 dupA_53 rfl rfl rfl ?_
          refine wkP.iloadN 55 dupA_54 rfl rfl ?_
          refine wkP.iconst 56 (1 : Int32) dupA_55 rfl rfl ?_
          refine wkP.isub 57 (Int32.ofNat (i - 1)) dupA_56 (dec1 hi0) rfl ?_
          obtain ⟨v, hv⟩ : ∃ x, arr[i - 1]? = some x := ⟨_, List.getElem?_eq_getElem (show i - 1 < arr.length by omega)⟩
          have dv : arr.getD (i - 1) 0 = v := by simp [List.getD_eq_getElem?_getD, hv]
          refine wkP.caload 58 (i - 1) v F dupA_57 (toI (by omega)) hv rfl ?_
          refine wkP.callS 61 (M_isH l Z a0 g _ v) [(.int v)] [] 0 g.2.1 (w57 g.1) (w58 g.1) (w3 g.1) (w59 g.1) (by decide) dupA_58 (lenOf pd15 rfl) rfl rfl rfl (by simp) (Nat.le_of_eq rfl) (by decide) (by decide) (by decide) (by decide) rfl ?_
          rintro v139 _ o139 ⟨rfl, rfl, rfl⟩ K139
          by_cases hh2 : hiP v = true
          · refine wkP.ifT 68 dupA_61 (show ¬ (if hiP v then 1 else 0) = (0 : Int32) from (by rw [if_pos hh2]; decide)) (by decide) (by decide) ?_
            refine wkP.iconst 69 (0 : Int32) dupA_68 rfl rfl ?_
            exact wkP.retI .boolean [] g.2.1 dupA_69 rfl (by simp) rfl (by decide) (by decide) (by simp) ⟨by unfold upB; simp_all, rfl, rfl⟩
          · refine wkP.ifF 64 dupA_61 (show ¬ (¬ (if hiP v then 1 else 0) = (0 : Int32)) from (by rw [if_neg hh2]; decide)) rfl ?_
            refine wkP.iconst 65 (1 : Int32) dupA_64 rfl rfl ?_
            refine wkP.goto 69 dupA_65 (by decide) (by decide) ?_
            exact wkP.retI .boolean [] g.2.1 dupA_69 rfl (by simp) rfl (by decide) (by decide) (by simp) ⟨by unfold upB; simp_all, rfl, rfl⟩
        · refine wkP.ifT 64 dupA_50 (show ¬ (0 : Int32) < (Int32.ofNat i) from (by rw [show i = 0 by omega]; decide)) (by decide) (by decide) ?_
          refine wkP.iconst 65 (1 : Int32) dupA_64 rfl rfl ?_
          refine wkP.goto 69 dupA_65 (by decide) (by decide) ?_
          exact wkP.retI .boolean [] g.2.1 dupA_69 rfl (by simp) rfl (by decide) (by decide) (by simp) ⟨by unfold upB; simp_all, rfl, rfl⟩
      · refine wkP.ifT 70 dupA_46 (show (if loP u then 1 else 0) = (0 : Int32) from (by rw [if_neg hw1])) (by decide) (by decide) ?_
        refine wkP.iconst 71 (0 : Int32) dupA_70 rfl rfl ?_
        exact wkP.retI .boolean [] g.2.1 dupA_71 rfl (by simp) rfl (by decide) (by decide) (by simp) ⟨by unfold upB; simp_all, rfl, rfl⟩
  · refine wkP.icmpF 5 dupA_2 (show ¬ ((Int32.ofNat i) < (Int32.ofNat n)) from (fun q => hin ((ofNat_lt (by omega) hn31).mp q))) rfl ?_
    refine wkP.iconst 6 (0 : Int32) dupA_5 rfl rfl ?_
    exact wkP.retI .boolean [] g.2.1 dupA_6 rfl (by simp) rfl (by decide) (by decide) (by simp) ⟨by rw [show upB arr n i = false by unfold upB; rw [decide_eq_false hin]; rfl]; rfl, rfl, rfl⟩
theorem fu_one {u : Int32} {r : List Int32} {i : Nat} (q : hiP u = false ∨ r.map kd = [] ∨ ∃ v r', r.map kd = v :: r' ∧ v.2 = false) (hs : (hiP u || loP u) = true) : fu ((u :: r).map kd) i = Int32.ofNat i := by
  rcases q with q | q | ⟨v, r', q, q2⟩
  · cases h : r.map kd with
    | nil => simp [h, fu, kd, hs]
    | cons v r' => rw [q] at hs; simp at hs; simp [h, fu, kd, q, hs]
  · simp [q, fu, kd, hs]
  · simp [q, q2, fu, kd, hs]
theorem fu_skip {u : Int32} {r : List Int32} {i : Nat} (q : hiP u = false ∨ r.map kd = [] ∨ ∃ v r', r.map kd = v :: r' ∧ v.2 = false) (hs : (hiP u || loP u) = false) : fu ((u :: r).map kd) i = fu (r.map kd) (i + 1) := by
  have h1 : hiP u = false := by revert hs; cases hiP u <;> simp
  cases h : r.map kd with
  | nil => simp [h, fu, kd, hs]
  | cons v r' => simp [h, fu, kd, hs, h1]; intro q; rw [h1] at hs; simp at hs; rw [hs] at q; cases q
abbrev rfUn : Room := { frames := 5, cells := 0, slots := 0, locals := 66 }
set_option maxRecDepth 65536 in
set_option maxHeartbeats 4000000 in
theorem L_fUn (l : Launch) (Z : State) (a0 : Array Value) (g : G Z a0) (hs h : Heap) (a b : Addr) (cs : List Int32) (F : St Z h a b cs) (hcap : cs.length ≤ 5) : ∀ (r i : Nat) (o2 : Slot), One o2 → i ≤ cs.length → cs.length - i ≤ r →
    wkP l Z bfUn rfUn hs [] (fun v h' os => v = some (.int (fu ((cs.drop i).map kd) i)) ∧ os = [] ∧ h = h') [] h 0 0 2 #[.val (.ref a), .val (.int (Int32.ofNat i)), o2] [] := by
  have hl31 := F.len
  intro r
  induction r with
  | zero =>
    intro i o2 ho2 hic hir
    refine wkP.iloadN 3 dfUn_2 rfl rfl ?_
    refine wkP.aloadN 4 dfUn_3 rfl rfl rfl ?_
    refine wkP.callV 7 (M_len l Z a0 g _ a b cs F) [] [(.int (Int32.ofNat i))] 1 g.2.1 F.exa (wkNFs (w39 g.1)) (w36 g.1) (w37 g.1) (w39 g.1) (w38 g.1) (w10 g.1) (w40 g.1) (by decide) dfUn_4 (lenOf pd16 rfl) rfl rfl rfl (by simp) (Nat.le_of_eq rfl) (by decide) (by decide) (by decide) (by decide) rfl ?_
    rintro v140 _ o140 ⟨rfl, rfl, rfl⟩ K140
    refine wkP.icmpT 67 dfUn_7 (show ¬ (Int32.ofNat i) < (Int32.ofNat cs.length) from (fun q => absurd ((ofNat_lt (by omega) hl31).mp q) (by omega))) (by decide) (by decide) ?_
    refine wkP.iconst 68 (-1 : Int32) dfUn_67 rfl rfl ?_
    have hd : cs.drop i = [] := List.drop_eq_nil_of_le (by omega)
    exact wkP.retI .int [] g.2.1 dfUn_68 rfl (by simp) rfl (by decide) (by decide) (by simp) ⟨by rw [hd]; rfl, rfl, rfl⟩
  | succ r ih =>
    intro i o2 ho2 hic hir
    refine wkP.iloadN 3 dfUn_2 rfl rfl ?_
    refine wkP.aloadN 4 dfUn_3 rfl rfl rfl ?_
    refine wkP.callV 7 (M_len l Z a0 g _ a b cs F) [] [(.int (Int32.ofNat i))] 1 g.2.1 F.exa (wkNFs (w39 g.1)) (w36 g.1) (w37 g.1) (w39 g.1) (w38 g.1) (w10 g.1) (w40 g.1) (by decide) dfUn_4 (lenOf pd16 rfl) rfl rfl rfl (by simp) (Nat.le_of_eq rfl) (by decide) (by decide) (by decide) (by decide) rfl ?_
    rintro v140 _ o140 ⟨rfl, rfl, rfl⟩ K140
    by_cases hil : i < cs.length
    · refine wkP.icmpF 10 dfUn_7 (show ¬ (¬ (Int32.ofNat i) < (Int32.ofNat cs.length)) from (fun q => q ((ofNat_lt (by omega) hl31).mpr hil))) rfl ?_
      refine wkP.aloadN 11 dfUn_10 rfl rfl rfl ?_
      refine wkP.iloadN 12 dfUn_11 rfl rfl ?_
      obtain ⟨u, hu⟩ : ∃ x, cs[i]? = some x := ⟨_, List.getElem?_eq_getElem hil⟩
      have hd : cs.drop i = u :: cs.drop (i + 1) := by rw [List.drop_eq_getElem_cons hil]; rw [List.getElem?_eq_getElem hil] at hu; rw [Option.some.inj hu]
      refine wkP.callV 15 (M_chAt l Z a0 g _ a b cs F i u hu (F.ch u (List.mem_of_getElem? hu))) [(.int (Int32.ofNat i))] [] 0 g.2.1 F.exa (wkNFs (w68 g.1)) (w65 g.1) (w66 g.1) (w68 g.1) (w67 g.1) (w10 g.1) (w69 g.1) (by decide) dfUn_12 (lenOf pd17 rfl) rfl rfl rfl (by simp) (Nat.le_of_eq rfl) (by decide) (by decide) (by decide) (by decide) rfl ?_
      rintro v141 _ o141 ⟨rfl, rfl, rfl⟩ K141
      refine wkP.istoreN 16 #[.val (.ref a), .val (.int (Int32.ofNat i)), .val (.int u)] dfUn_15 (XS.store1 rfl ho2 rfl) rfl ?_
      refine wkP.iloadN 17 dfUn_16 rfl rfl ?_
      refine wkP.callS 20 (M_cH l Z a0 g _ u) [(.int u)] [] 0 g.2.1 (w87 g.1) (w88 g.1) (w89 g.1) (w90 g.1) (by decide) dfUn_17 (lenOf pd15 rfl) rfl rfl rfl (by simp) (Nat.le_of_eq rfl) (by decide) (by decide) (by decide) (by decide) rfl ?_
      rintro v142 _ o142 ⟨rfl, rfl, rfl⟩ K142
      by_cases hh : hiP u = true
      · refine wkP.ifF 23 dfUn_20 (show ¬ ((if hiP u then 1 else 0) = (0 : Int32)) from (by rw [if_pos hh]; decide)) rfl ?_
        refine wkP.iloadN 24 dfUn_23 rfl rfl ?_
        refine wkP.iconst 25 (1 : Int32) dfUn_24 rfl rfl ?_
        refine wkP.iadd 26 (Int32.ofNat (i + 1)) dfUn_25 (inc1 i) rfl ?_
        refine wkP.aloadN 27 dfUn_26 rfl rfl rfl ?_
        refine wkP.callV 30 (M_len l Z a0 g _ a b cs F) [] [(.int (Int32.ofNat (i + 1)))] 1 g.2.1 F.exa (wkNFs (w39 g.1)) (w36 g.1) (w37 g.1) (w39 g.1) (w38 g.1) (w10 g.1) (w40 g.1) (by decide) dfUn_27 (lenOf pd16 rfl) rfl rfl rfl (by simp) (Nat.le_of_eq rfl) (by decide) (by decide) (by decide) (by decide) rfl ?_
        rintro v144 _ o144 ⟨rfl, rfl, rfl⟩ K144
        by_cases hil1 : i + 1 < cs.length
        · refine wkP.icmpF 33 dfUn_30 (show ¬ (¬ (Int32.ofNat (i + 1)) < (Int32.ofNat cs.length)) from (fun q => q ((ofNat_lt (by omega) hl31).mpr hil1))) rfl ?_
          refine wkP.aloadN 34 dfUn_33 rfl rfl rfl ?_
          refine wkP.iloadN 35 dfUn_34 rfl rfl ?_
          refine wkP.iconst 36 (1 : Int32) dfUn_35 rfl rfl ?_
          refine wkP.iadd 37 (Int32.ofNat (i + 1)) dfUn_36 (inc1 i) rfl ?_
          obtain ⟨v, hv⟩ : ∃ x, cs[i + 1]? = some x := ⟨_, List.getElem?_eq_getElem hil1⟩
          have hd1 : cs.drop (i + 1) = v :: cs.drop (i + 2) := by rw [List.drop_eq_getElem_cons hil1]; rw [List.getElem?_eq_getElem hil1] at hv; rw [Option.some.inj hv]
          refine wkP.callV 40 (M_chAt l Z a0 g _ a b cs F (i + 1) v hv (F.ch v (List.mem_of_getElem? hv))) [(.int (Int32.ofNat (i + 1)))] [] 0 g.2.1 F.exa (wkNFs (w68 g.1)) (w65 g.1) (w66 g.1) (w68 g.1) (w67 g.1) (w10 g.1) (w69 g.1) (by decide) dfUn_37 (lenOf pd17 rfl) rfl rfl rfl (by simp) (Nat.le_of_eq rfl) (by decide) (by decide) (by decide) (by decide) rfl ?_
          rintro v146 _ o146 ⟨rfl, rfl, rfl⟩ K146
          refine wkP.callS 43 (M_cL l Z a0 g _ v) [(.int v)] [] 0 g.2.1 (w128 g.1) (w129 g.1) (w89 g.1) (w130 g.1) (by decide) dfUn_40 (lenOf pd15 rfl) rfl rfl rfl (by simp) (Nat.le_of_eq rfl) (by decide) (by decide) (by decide) (by decide) rfl ?_
          rintro v147 _ o147 ⟨rfl, rfl, rfl⟩ K147
          by_cases hw1 : loP v = true
          · refine wkP.ifF 46 dfUn_43 (show ¬ ((if loP v then 1 else 0) = (0 : Int32)) from (by rw [if_pos hw1]; decide)) rfl ?_
            refine wkP.iinc 49 (Int32.ofNat (i + 2)) #[.val (.ref a), .val (.int (Int32.ofNat (i + 2))), .val (.int u)] dfUn_46 rfl (inc2_ofNat i).symm rfl rfl ?_
            refine wkP.goto 64 dfUn_49 (by decide) (by decide) ?_
            refine wkP.goto 2 dfUn_64 (by decide) (by decide) ?_
            have e := ih (i + 2) _ (One.val (w := .int u) rfl) (by omega) (by omega)
            have ef : fu ((cs.drop i).map kd) i = fu ((cs.drop (i + 2)).map kd) (i + 2) := by rw [hd, hd1]; simp [fu, kd, hh, hw1]
            rw [ef]
            exact e
          · refine wkP.ifT 52 dfUn_43 (show (if loP v then 1 else 0) = (0 : Int32) from (by rw [if_neg hw1])) (by decide) (by decide) ?_
            refine wkP.iloadN 53 dfUn_52 rfl rfl ?_
            refine wkP.callS 56 (M_cS l Z a0 g _ u) [(.int u)] [] 0 g.2.1 (w92 g.1) (w93 g.1) (w89 g.1) (w94 g.1) (by decide) dfUn_53 (lenOf pd15 rfl) rfl rfl rfl (by simp) (Nat.le_of_eq rfl) (by decide) (by decide) (by decide) (by decide) rfl ?_
            rintro v148 _ o148 ⟨rfl, rfl, rfl⟩ K148
            by_cases hs_ : (hiP u || loP u) = true
            · refine wkP.ifF 59 dfUn_56 (show ¬ ((if (hiP u || loP u) then 1 else 0) = (0 : Int32)) from (by rw [if_pos hs_]; decide)) rfl ?_
              refine wkP.iloadN 60 dfUn_59 rfl rfl ?_
              exact wkP.retI .int [] g.2.1 dfUn_60 rfl (by simp) rfl (by decide) (by decide) (by simp) ⟨by rw [hd, fu_one (Or.inr (Or.inr ⟨kd v, (cs.drop (i + 2)).map kd, by rw [hd1]; rfl, by simpa [kd] using hw1⟩)) hs_], rfl, rfl⟩
            · refine wkP.ifT 61 dfUn_56 (show (if (hiP u || loP u) then 1 else 0) = (0 : Int32) from (by rw [if_neg hs_])) (by decide) (by decide) ?_
              refine wkP.iinc 64 (Int32.ofNat (i + 1)) #[.val (.ref a), .val (.int (Int32.ofNat (i + 1))), .val (.int u)] dfUn_61 rfl (inc1 i) rfl rfl ?_
              refine wkP.goto 2 dfUn_64 (by decide) (by decide) ?_
              have e := ih (i + 1) _ (One.val (w := .int u) rfl) (by omega) (by omega)
              have ef : fu ((cs.drop i).map kd) i = fu ((cs.drop (i + 1)).map kd) (i + 1) := by rw [hd]; exact fu_skip (Or.inr (Or.inr ⟨kd v, (cs.drop (i + 2)).map kd, by rw [hd1]; rfl, by simpa [kd] using hw1⟩)) (by simpa using hs_)
              rw [ef]
              exact e
        · refine wkP.icmpT 52 dfUn_30 (show ¬ (Int32.ofNat (i + 1)) < (Int32.ofNat cs.length) from (fun q => hil1 ((ofNat_lt (by omega) hl31).mp q))) (by decide) (by decide) ?_
          have hd1 : cs.drop (i + 1) = [] := List.drop_eq_nil_of_le (by omega)
          refine wkP.iloadN 53 dfUn_52 rfl rfl ?_
          refine wkP.callS 56 (M_cS l Z a0 g _ u) [(.int u)] [] 0 g.2.1 (w92 g.1) (w93 g.1) (w89 g.1) (w94 g.1) (by decide) dfUn_53 (lenOf pd15 rfl) rfl rfl rfl (by simp) (Nat.le_of_eq rfl) (by decide) (by decide) (by decide) (by decide) rfl ?_
          rintro v145 _ o145 ⟨rfl, rfl, rfl⟩ K145
          by_cases hs_ : (hiP u || loP u) = true
          · refine wkP.ifF 59 dfUn_56 (show ¬ ((if (hiP u || loP u) then 1 else 0) = (0 : Int32)) from (by rw [if_pos hs_]; decide)) rfl ?_
            refine wkP.iloadN 60 dfUn_59 rfl rfl ?_
            exact wkP.retI .int [] g.2.1 dfUn_60 rfl (by simp) rfl (by decide) (by decide) (by simp) ⟨by rw [hd, fu_one (Or.inr (Or.inl (by rw [hd1]; rfl))) hs_], rfl, rfl⟩
          · refine wkP.ifT 61 dfUn_56 (show (if (hiP u || loP u) then 1 else 0) = (0 : Int32) from (by rw [if_neg hs_])) (by decide) (by decide) ?_
            refine wkP.iinc 64 (Int32.ofNat (i + 1)) #[.val (.ref a), .val (.int (Int32.ofNat (i + 1))), .val (.int u)] dfUn_61 rfl (inc1 i) rfl rfl ?_
            refine wkP.goto 2 dfUn_64 (by decide) (by decide) ?_
            have e := ih (i + 1) _ (One.val (w := .int u) rfl) (by omega) (by omega)
            have ef : fu ((cs.drop i).map kd) i = fu ((cs.drop (i + 1)).map kd) (i + 1) := by rw [hd]; exact fu_skip (Or.inr (Or.inl (by rw [hd1]; rfl))) (by simpa using hs_)
            rw [ef]
            exact e
      · refine wkP.ifT 52 dfUn_20 (show (if hiP u then 1 else 0) = (0 : Int32) from (by rw [if_neg hh])) (by decide) (by decide) ?_
        refine wkP.iloadN 53 dfUn_52 rfl rfl ?_
        refine wkP.callS 56 (M_cS l Z a0 g _ u) [(.int u)] [] 0 g.2.1 (w92 g.1) (w93 g.1) (w89 g.1) (w94 g.1) (by decide) dfUn_53 (lenOf pd15 rfl) rfl rfl rfl (by simp) (Nat.le_of_eq rfl) (by decide) (by decide) (by decide) (by decide) rfl ?_
        rintro v143 _ o143 ⟨rfl, rfl, rfl⟩ K143
        by_cases hs_ : (hiP u || loP u) = true
        · refine wkP.ifF 59 dfUn_56 (show ¬ ((if (hiP u || loP u) then 1 else 0) = (0 : Int32)) from (by rw [if_pos hs_]; decide)) rfl ?_
          refine wkP.iloadN 60 dfUn_59 rfl rfl ?_
          exact wkP.retI .int [] g.2.1 dfUn_60 rfl (by simp) rfl (by decide) (by decide) (by simp) ⟨by rw [hd, fu_one (Or.inl (by simpa using hh)) hs_], rfl, rfl⟩
        · refine wkP.ifT 61 dfUn_56 (show (if (hiP u || loP u) then 1 else 0) = (0 : Int32) from (by rw [if_neg hs_])) (by decide) (by decide) ?_
          refine wkP.iinc 64 (Int32.ofNat (i + 1)) #[.val (.ref a), .val (.int (Int32.ofNat (i + 1))), .val (.int u)] dfUn_61 rfl (inc1 i) rfl rfl ?_
          refine wkP.goto 2 dfUn_64 (by decide) (by decide) ?_
          have e := ih (i + 1) _ (One.val (w := .int u) rfl) (by omega) (by omega)
          have ef : fu ((cs.drop i).map kd) i = fu ((cs.drop (i + 1)).map kd) (i + 1) := by rw [hd]; exact fu_skip (Or.inl (by simpa using hh)) (by simpa using hs_)
          rw [ef]
          exact e
    · refine wkP.icmpT 67 dfUn_7 (show ¬ (Int32.ofNat i) < (Int32.ofNat cs.length) from (fun q => hil ((ofNat_lt (by omega) hl31).mp q))) (by decide) (by decide) ?_
      refine wkP.iconst 68 (-1 : Int32) dfUn_67 rfl rfl ?_
      have hd : cs.drop i = [] := List.drop_eq_nil_of_le (by omega)
      exact wkP.retI .int [] g.2.1 dfUn_68 rfl (by simp) rfl (by decide) (by decide) (by simp) ⟨by rw [hd]; rfl, rfl, rfl⟩
set_option maxRecDepth 65536 in
set_option maxHeartbeats 4000000 in
theorem M_fUn (l : Launch) (Z : State) (a0 : Array Value) (g : G Z a0) (h : Heap) (a b : Addr) (cs : List Int32) (F : St Z h a b cs) (hcap : cs.length ≤ 5) : wkM l Z bfUn rfUn #[.ref a] h [] (fun v h' os => v = some (.int (fu (cs.map kd) 0)) ∧ os = [] ∧ h = h') := by
  refine wkM.of #[.val (.ref a), .unset, .unset] (plainFor_of_name (by first | (simp [plainName, overriddenIn]; done) | decide +kernel)) (fun m => by first | rfl | (simp [entryFrame, mkF, argsToLocals, Value.category]; done)) ?_
  refine wkP.iconst 1 (0 : Int32) dfUn_0 rfl rfl ?_
  refine wkP.istoreN 2 #[.val (.ref a), .val (.int (0 : Int32)), .unset] dfUn_1 rfl rfl ?_
  exact L_fUn l Z a0 g h h a b cs F hcap cs.length 0 .unset One.u (by omega) (by omega)
def upK (L : List (Bool × Bool)) (i : Nat) : Bool := decide (i < L.length) && (((L.getD i (false, false)).1 && !(decide (i + 1 < L.length) && (L.getD (i + 1) (false, false)).2)) || (!(L.getD i (false, false)).1 && (L.getD i (false, false)).2 && !(decide (0 < i) && (L.getD (i - 1) (false, false)).1)))
def five (L : List (Bool × Bool)) : Int32 := if upK L 0 then 0 else if upK L 1 then 1 else if upK L 2 then 2 else if upK L 3 then 3 else if upK L 4 then 4 else -1
theorem plain0 : fu [] 0 = five [] := by decide
theorem plain1 : ∀ a0 b0 : Bool, (a0 && b0) = false → fu [(a0, b0)] 0 = five [(a0, b0)] := by decide +kernel
theorem plain2 : ∀ a0 b0 a1 b1 : Bool, (a0 && b0) = false → (a1 && b1) = false → fu [(a0, b0), (a1, b1)] 0 = five [(a0, b0), (a1, b1)] := by decide +kernel
theorem plain3 : ∀ a0 b0 a1 b1 a2 b2 : Bool, (a0 && b0) = false → (a1 && b1) = false → (a2 && b2) = false → fu [(a0, b0), (a1, b1), (a2, b2)] 0 = five [(a0, b0), (a1, b1), (a2, b2)] := by decide +kernel
theorem plain4 : ∀ a0 b0 a1 b1 a2 b2 a3 b3 : Bool, (a0 && b0) = false → (a1 && b1) = false → (a2 && b2) = false → (a3 && b3) = false → fu [(a0, b0), (a1, b1), (a2, b2), (a3, b3)] 0 = five [(a0, b0), (a1, b1), (a2, b2), (a3, b3)] := by decide +kernel
theorem plain5 : ∀ a0 b0 a1 b1 a2 b2 a3 b3 a4 b4 : Bool, (a0 && b0) = false → (a1 && b1) = false → (a2 && b2) = false → (a3 && b3) = false → (a4 && b4) = false → fu [(a0, b0), (a1, b1), (a2, b2), (a3, b3), (a4, b4)] 0 = five [(a0, b0), (a1, b1), (a2, b2), (a3, b3), (a4, b4)] := by decide +kernel
theorem rem6 (x : Int32) : ∃ z : Int32, (x &&& 7) % 6 = z ∧ 0 ≤ z.toInt ∧ z.toInt < 6 := by
  refine ⟨_, rfl, ?_⟩
  have h := c_mask x 7 3 (by decide) (by decide)
  have h2 := c_irem (x &&& 7) 6 6 (by decide)
  omega
set_option maxRecDepth 65536 in
set_option maxHeartbeats 4000000 in
theorem M_law (l : Launch) (Z : State) (a0 : Array Value) (g : G Z a0) (h : Heap) (i0 i1 i2 i3 i4 i5 : Int32) : wkM l Z blaw room_1 #[.int i0, .int i1, .int i2, .int i3, .int i4, .int i5] h [] (fun v h' os => v = some (.int 1)) := by
  refine wkM.of #[.val (.int i0), .val (.int i1), .val (.int i2), .val (.int i3), .val (.int i4), .val (.int i5), .unset, .unset, .unset, .unset] (plainFor_of_name (by first | (simp [plainName, overriddenIn]; done) | decide +kernel)) (fun m => by first | rfl | (simp [entryFrame, mkF, argsToLocals, Value.category]; done)) ?_
  obtain ⟨n, hn, hn0, hn6⟩ := rem6 i0
  refine wkP.iloadN 1 at_0 rfl rfl ?_
  refine wkP.bipush 3 (7 : Int32) at_1 rfl rfl ?_
  refine wkP.iand 4 (i0 &&& (7 : Int32)) at_3 rfl rfl ?_
  refine wkP.bipush 6 (6 : Int32) at_4 rfl rfl ?_
  refine wkP.irem 7 n at_6 (by decide) hn rfl ?_
  refine wkP.istore 9 #[.val (.int i0), .val (.int i1), .val (.int i2), .val (.int i3), .val (.int i4), .val (.int i5), .val (.int n), .unset, .unset, .unset] at_7 rfl rfl ?_
  refine wkP.iconst 10 (5 : Int32) at_9 rfl rfl ?_
  refine wkP.newP 12 .char 5 5 (w0 g.1) rfl rfl rfl at_10 rfl (by decide) (by decide) (by decide) (by decide) rfl ?_
  intro h149 a149 g149 l149 K149 A149
  have z149 := K149.1
  replace A149 : Ia Z h149 a149 .char [(0 : Int32), (0 : Int32), (0 : Int32), (0 : Int32), (0 : Int32)] := A149
  refine wkP.astore 14 #[.val (.int i0), .val (.int i1), .val (.int i2), .val (.int i3), .val (.int i4), .val (.int i5), .val (.int n), .val (.ref a149), .unset, .unset] at_12 rfl rfl rfl ?_
  refine wkP.aload 16 at_14 rfl rfl rfl ?_
  refine wkP.iconst 17 (0 : Int32) at_16 rfl rfl ?_
  refine wkP.iloadN 18 at_17 rfl rfl ?_
  refine wkP.callS 21 (M_draw l Z a0 g _ i1) [(.int i1)] [(.int (0 : Int32)), (.ref a149)] 2 g.2.1 (w1 g.1) (w2 g.1) (w3 g.1) (w4 g.1) (by decide) at_18 (lenOf pd17 rfl) rfl rfl rfl (by simp) (Nat.le_of_eq rfl) (by decide) (by decide) (by decide) (by decide) rfl ?_
  rintro v150 _ o150 ⟨c0, rfl, hk0, rfl, rfl⟩ K150
  refine wkP.stC 22 0 c0 A149 at_21 rfl (by simp) (nar_c hk0) (by simp) rfl ?_
  intro h151 K151 A151
  have z151 := K151.1
  replace A151 : Ia Z h151 a149 .char [c0, (0 : Int32), (0 : Int32), (0 : Int32), (0 : Int32)] := A151
  refine wkP.aload 24 at_22 rfl rfl rfl ?_
  refine wkP.iconst 25 (1 : Int32) at_24 rfl rfl ?_
  refine wkP.iloadN 26 at_25 rfl rfl ?_
  refine wkP.callS 29 (M_draw l Z a0 g _ i2) [(.int i2)] [(.int (1 : Int32)), (.ref a149)] 2 g.2.1 (w1 g.1) (w2 g.1) (w3 g.1) (w4 g.1) (by decide) at_26 (lenOf pd17 rfl) rfl rfl rfl (by simp) (Nat.le_of_eq rfl) (by decide) (by decide) (by decide) (by decide) rfl ?_
  rintro v152 _ o152 ⟨c1, rfl, hk1, rfl, rfl⟩ K152
  refine wkP.stC 30 1 c1 A151 at_29 rfl (by simp) (nar_c hk1) (by simp) rfl ?_
  intro h153 K153 A153
  have z153 := K153.1
  replace A153 : Ia Z h153 a149 .char [c0, c1, (0 : Int32), (0 : Int32), (0 : Int32)] := A153
  refine wkP.aload 32 at_30 rfl rfl rfl ?_
  refine wkP.iconst 33 (2 : Int32) at_32 rfl rfl ?_
  refine wkP.iloadN 34 at_33 rfl rfl ?_
  refine wkP.callS 37 (M_draw l Z a0 g _ i3) [(.int i3)] [(.int (2 : Int32)), (.ref a149)] 2 g.2.1 (w1 g.1) (w2 g.1) (w3 g.1) (w4 g.1) (by decide) at_34 (lenOf pd17 rfl) rfl rfl rfl (by simp) (Nat.le_of_eq rfl) (by decide) (by decide) (by decide) (by decide) rfl ?_
  rintro v154 _ o154 ⟨c2, rfl, hk2, rfl, rfl⟩ K154
  refine wkP.stC 38 2 c2 A153 at_37 rfl (by simp) (nar_c hk2) (by simp) rfl ?_
  intro h155 K155 A155
  have z155 := K155.1
  replace A155 : Ia Z h155 a149 .char [c0, c1, c2, (0 : Int32), (0 : Int32)] := A155
  refine wkP.aload 40 at_38 rfl rfl rfl ?_
  refine wkP.iconst 41 (3 : Int32) at_40 rfl rfl ?_
  refine wkP.iload 43 at_41 rfl rfl ?_
  refine wkP.callS 46 (M_draw l Z a0 g _ i4) [(.int i4)] [(.int (3 : Int32)), (.ref a149)] 2 g.2.1 (w1 g.1) (w2 g.1) (w3 g.1) (w4 g.1) (by decide) at_43 (lenOf pd17 rfl) rfl rfl rfl (by simp) (Nat.le_of_eq rfl) (by decide) (by decide) (by decide) (by decide) rfl ?_
  rintro v156 _ o156 ⟨c3, rfl, hk3, rfl, rfl⟩ K156
  refine wkP.stC 47 3 c3 A155 at_46 rfl (by simp) (nar_c hk3) (by simp) rfl ?_
  intro h157 K157 A157
  have z157 := K157.1
  replace A157 : Ia Z h157 a149 .char [c0, c1, c2, c3, (0 : Int32)] := A157
  refine wkP.aload 49 at_47 rfl rfl rfl ?_
  refine wkP.iconst 50 (4 : Int32) at_49 rfl rfl ?_
  refine wkP.iload 52 at_50 rfl rfl ?_
  refine wkP.callS 55 (M_draw l Z a0 g _ i5) [(.int i5)] [(.int (4 : Int32)), (.ref a149)] 2 g.2.1 (w1 g.1) (w2 g.1) (w3 g.1) (w4 g.1) (by decide) at_52 (lenOf pd17 rfl) rfl rfl rfl (by simp) (Nat.le_of_eq rfl) (by decide) (by decide) (by decide) (by decide) rfl ?_
  rintro v158 _ o158 ⟨c4, rfl, hk4, rfl, rfl⟩ K158
  refine wkP.stC 56 4 c4 A157 at_55 rfl (by simp) (nar_c hk4) (by simp) rfl ?_
  intro h159 K159 A159
  have z159 := K159.1
  replace A159 : Ia Z h159 a149 .char [c0, c1, c2, c3, c4] := A159
  have hk : chs [c0, c1, c2, c3, c4] := by
    intro c hc
    simp only [List.mem_cons, List.not_mem_nil, or_false] at hc
    rcases hc with rfl | rfl | rfl | rfl | rfl
    · exact hk0
    · exact hk1
    · exact hk2
    · exact hk3
    · exact hk4
  refine wkP.iload 58 at_56 rfl rfl ?_
  refine wkP.aload 60 at_58 rfl rfl rfl ?_
  skip
  by_cases hn_0 : n = 0
  · subst hn_0
    refine wkP.callS 63 (M_make0 l Z a0 g _ a149 c0 c1 c2 c3 c4 A159 hk) [(.int (0 : Int32)), (.ref a149)] [] 0 g.2.1 (w5 g.1) (w6 g.1) (w3 g.1) (w7 g.1) (by decide) at_60 (lenOf pd18 rfl) rfl rfl rfl (by simp) (Nat.le_of_eq rfl) (by decide) (by decide) (by decide) (by decide) rfl ?_
    rintro v160 h160 o160 ⟨s, t, rfl, rfl, H⟩ K160
    have z160 := K160.1
    refine wkP.astore 65 #[.val (.int i0), .val (.int i1), .val (.int i2), .val (.int i3), .val (.int i4), .val (.int i5), .val (.int (0 : Int32)), .val (.ref a149), .val (.ref s), .unset] at_63 rfl rfl rfl ?_
    refine wkP.iconst 66 (-1 : Int32) at_65 rfl rfl ?_
    refine wkP.istore 68 #[.val (.int i0), .val (.int i1), .val (.int i2), .val (.int i3), .val (.int i4), .val (.int i5), .val (.int (0 : Int32)), .val (.ref a149), .val (.ref s), .val (.int (-1 : Int32))] at_66 rfl rfl ?_
    refine wkP.aload 70 at_68 rfl rfl rfl ?_
    refine wkP.iload 72 at_70 rfl rfl ?_
    refine wkP.iconst 73 (4 : Int32) at_72 rfl rfl ?_
    have A159_161 := (A159.keep K160 nn0)
    refine wkP.callS 76 (M_upA l Z a0 g _ a149 [c0, c1, c2, c3, c4] 0 4 A159_161 (by simp) (by decide)) [(.ref a149), (.int (0 : Int32)), (.int (4 : Int32))] [] 0 g.2.1 (w29 g.1) (w30 g.1) (w3 g.1) (w31 g.1) (by decide) at_73 (lenOf pd19 rfl) rfl rfl rfl (by simp) (Nat.le_of_eq rfl) (by decide) (by decide) (by decide) (by decide) rfl ?_
    rintro v162 _ o162 ⟨rfl, rfl, rfl⟩ K162
    suffices key : wkP l Z blaw room_1 h [] (fun v h' os => v = some (.int 1)) [a149] h160 7 29 82 #[.val (.int i0), .val (.int i1), .val (.int i2), .val (.int i3), .val (.int i4), .val (.int i5), .val (.int (0 : Int32)), .val (.ref a149), .val (.ref s), .val (.int (if upB [c0, c1, c2, c3, c4] 0 4 then (4 : Int32) else (-1 : Int32)))] [] by
      by_cases u4 : upB [c0, c1, c2, c3, c4] 0 4 = true
      · refine wkP.ifF 79 at_76 (show ¬ ((if upB [c0, c1, c2, c3, c4] 0 4 then 1 else 0) = (0 : Int32)) from (by rw [if_pos u4]; decide)) rfl ?_
        refine wkP.iconst 80 (4 : Int32) at_79 rfl rfl ?_
        refine wkP.istore 82 #[.val (.int i0), .val (.int i1), .val (.int i2), .val (.int i3), .val (.int i4), .val (.int i5), .val (.int (0 : Int32)), .val (.ref a149), .val (.ref s), .val (.int (4 : Int32))] at_80 rfl rfl ?_
        rw [if_pos u4] at key; exact key
      · refine wkP.ifT 82 at_76 (show (if upB [c0, c1, c2, c3, c4] 0 4 then 1 else 0) = (0 : Int32) from (by rw [if_neg u4])) (by decide) (by decide) ?_
        rw [if_neg u4] at key; exact key
    refine wkP.aload 84 at_82 rfl rfl rfl ?_
    refine wkP.iload 86 at_84 rfl rfl ?_
    refine wkP.iconst 87 (3 : Int32) at_86 rfl rfl ?_
    refine wkP.callS 90 (M_upA l Z a0 g _ a149 [c0, c1, c2, c3, c4] 0 3 A159_161 (by simp) (by decide)) [(.ref a149), (.int (0 : Int32)), (.int (3 : Int32))] [] 0 g.2.1 (w29 g.1) (w30 g.1) (w3 g.1) (w31 g.1) (by decide) at_87 (lenOf pd19 rfl) rfl rfl rfl (by simp) (Nat.le_of_eq rfl) (by decide) (by decide) (by decide) (by decide) rfl ?_
    rintro v163 _ o163 ⟨rfl, rfl, rfl⟩ K163
    suffices key : wkP l Z blaw room_1 h [] (fun v h' os => v = some (.int 1)) [a149] h160 7 29 96 #[.val (.int i0), .val (.int i1), .val (.int i2), .val (.int i3), .val (.int i4), .val (.int i5), .val (.int (0 : Int32)), .val (.ref a149), .val (.ref s), .val (.int (if upB [c0, c1, c2, c3, c4] 0 3 then (3 : Int32) else (if upB [c0, c1, c2, c3, c4] 0 4 then (4 : Int32) else (-1 : Int32))))] [] by
      by_cases u3 : upB [c0, c1, c2, c3, c4] 0 3 = true
      · refine wkP.ifF 93 at_90 (show ¬ ((if upB [c0, c1, c2, c3, c4] 0 3 then 1 else 0) = (0 : Int32)) from (by rw [if_pos u3]; decide)) rfl ?_
        refine wkP.iconst 94 (3 : Int32) at_93 rfl rfl ?_
        refine wkP.istore 96 #[.val (.int i0), .val (.int i1), .val (.int i2), .val (.int i3), .val (.int i4), .val (.int i5), .val (.int (0 : Int32)), .val (.ref a149), .val (.ref s), .val (.int (3 : Int32))] at_94 rfl rfl ?_
        rw [if_pos u3] at key; exact key
      · refine wkP.ifT 96 at_90 (show (if upB [c0, c1, c2, c3, c4] 0 3 then 1 else 0) = (0 : Int32) from (by rw [if_neg u3])) (by decide) (by decide) ?_
        rw [if_neg u3] at key; exact key
    refine wkP.aload 98 at_96 rfl rfl rfl ?_
    refine wkP.iload 100 at_98 rfl rfl ?_
    refine wkP.iconst 101 (2 : Int32) at_100 rfl rfl ?_
    refine wkP.callS 104 (M_upA l Z a0 g _ a149 [c0, c1, c2, c3, c4] 0 2 A159_161 (by simp) (by decide)) [(.ref a149), (.int (0 : Int32)), (.int (2 : Int32))] [] 0 g.2.1 (w29 g.1) (w30 g.1) (w3 g.1) (w31 g.1) (by decide) at_101 (lenOf pd19 rfl) rfl rfl rfl (by simp) (Nat.le_of_eq rfl) (by decide) (by decide) (by decide) (by decide) rfl ?_
    rintro v164 _ o164 ⟨rfl, rfl, rfl⟩ K164
    suffices key : wkP l Z blaw room_1 h [] (fun v h' os => v = some (.int 1)) [a149] h160 7 29 110 #[.val (.int i0), .val (.int i1), .val (.int i2), .val (.int i3), .val (.int i4), .val (.int i5), .val (.int (0 : Int32)), .val (.ref a149), .val (.ref s), .val (.int (if upB [c0, c1, c2, c3, c4] 0 2 then (2 : Int32) else (if upB [c0, c1, c2, c3, c4] 0 3 then (3 : Int32) else (if upB [c0, c1, c2, c3, c4] 0 4 then (4 : Int32) else (-1 : Int32)))))] [] by
      by_cases u2 : upB [c0, c1, c2, c3, c4] 0 2 = true
      · refine wkP.ifF 107 at_104 (show ¬ ((if upB [c0, c1, c2, c3, c4] 0 2 then 1 else 0) = (0 : Int32)) from (by rw [if_pos u2]; decide)) rfl ?_
        refine wkP.iconst 108 (2 : Int32) at_107 rfl rfl ?_
        refine wkP.istore 110 #[.val (.int i0), .val (.int i1), .val (.int i2), .val (.int i3), .val (.int i4), .val (.int i5), .val (.int (0 : Int32)), .val (.ref a149), .val (.ref s), .val (.int (2 : Int32))] at_108 rfl rfl ?_
        rw [if_pos u2] at key; exact key
      · refine wkP.ifT 110 at_104 (show (if upB [c0, c1, c2, c3, c4] 0 2 then 1 else 0) = (0 : Int32) from (by rw [if_neg u2])) (by decide) (by decide) ?_
        rw [if_neg u2] at key; exact key
    refine wkP.aload 112 at_110 rfl rfl rfl ?_
    refine wkP.iload 114 at_112 rfl rfl ?_
    refine wkP.iconst 115 (1 : Int32) at_114 rfl rfl ?_
    refine wkP.callS 118 (M_upA l Z a0 g _ a149 [c0, c1, c2, c3, c4] 0 1 A159_161 (by simp) (by decide)) [(.ref a149), (.int (0 : Int32)), (.int (1 : Int32))] [] 0 g.2.1 (w29 g.1) (w30 g.1) (w3 g.1) (w31 g.1) (by decide) at_115 (lenOf pd19 rfl) rfl rfl rfl (by simp) (Nat.le_of_eq rfl) (by decide) (by decide) (by decide) (by decide) rfl ?_
    rintro v165 _ o165 ⟨rfl, rfl, rfl⟩ K165
    suffices key : wkP l Z blaw room_1 h [] (fun v h' os => v = some (.int 1)) [a149] h160 7 29 124 #[.val (.int i0), .val (.int i1), .val (.int i2), .val (.int i3), .val (.int i4), .val (.int i5), .val (.int (0 : Int32)), .val (.ref a149), .val (.ref s), .val (.int (if upB [c0, c1, c2, c3, c4] 0 1 then (1 : Int32) else (if upB [c0, c1, c2, c3, c4] 0 2 then (2 : Int32) else (if upB [c0, c1, c2, c3, c4] 0 3 then (3 : Int32) else (if upB [c0, c1, c2, c3, c4] 0 4 then (4 : Int32) else (-1 : Int32))))))] [] by
      by_cases u1 : upB [c0, c1, c2, c3, c4] 0 1 = true
      · refine wkP.ifF 121 at_118 (show ¬ ((if upB [c0, c1, c2, c3, c4] 0 1 then 1 else 0) = (0 : Int32)) from (by rw [if_pos u1]; decide)) rfl ?_
        refine wkP.iconst 122 (1 : Int32) at_121 rfl rfl ?_
        refine wkP.istore 124 #[.val (.int i0), .val (.int i1), .val (.int i2), .val (.int i3), .val (.int i4), .val (.int i5), .val (.int (0 : Int32)), .val (.ref a149), .val (.ref s), .val (.int (1 : Int32))] at_122 rfl rfl ?_
        rw [if_pos u1] at key; exact key
      · refine wkP.ifT 124 at_118 (show (if upB [c0, c1, c2, c3, c4] 0 1 then 1 else 0) = (0 : Int32) from (by rw [if_neg u1])) (by decide) (by decide) ?_
        rw [if_neg u1] at key; exact key
    refine wkP.aload 126 at_124 rfl rfl rfl ?_
    refine wkP.iload 128 at_126 rfl rfl ?_
    refine wkP.iconst 129 (0 : Int32) at_128 rfl rfl ?_
    refine wkP.callS 132 (M_upA l Z a0 g _ a149 [c0, c1, c2, c3, c4] 0 0 A159_161 (by simp) (by decide)) [(.ref a149), (.int (0 : Int32)), (.int (0 : Int32))] [] 0 g.2.1 (w29 g.1) (w30 g.1) (w3 g.1) (w31 g.1) (by decide) at_129 (lenOf pd19 rfl) rfl rfl rfl (by simp) (Nat.le_of_eq rfl) (by decide) (by decide) (by decide) (by decide) rfl ?_
    rintro v166 _ o166 ⟨rfl, rfl, rfl⟩ K166
    suffices key : wkP l Z blaw room_1 h [] (fun v h' os => v = some (.int 1)) [a149] h160 7 29 138 #[.val (.int i0), .val (.int i1), .val (.int i2), .val (.int i3), .val (.int i4), .val (.int i5), .val (.int (0 : Int32)), .val (.ref a149), .val (.ref s), .val (.int (if upB [c0, c1, c2, c3, c4] 0 0 then (0 : Int32) else (if upB [c0, c1, c2, c3, c4] 0 1 then (1 : Int32) else (if upB [c0, c1, c2, c3, c4] 0 2 then (2 : Int32) else (if upB [c0, c1, c2, c3, c4] 0 3 then (3 : Int32) else (if upB [c0, c1, c2, c3, c4] 0 4 then (4 : Int32) else (-1 : Int32)))))))] [] by
      by_cases u0 : upB [c0, c1, c2, c3, c4] 0 0 = true
      · refine wkP.ifF 135 at_132 (show ¬ ((if upB [c0, c1, c2, c3, c4] 0 0 then 1 else 0) = (0 : Int32)) from (by rw [if_pos u0]; decide)) rfl ?_
        refine wkP.iconst 136 (0 : Int32) at_135 rfl rfl ?_
        refine wkP.istore 138 #[.val (.int i0), .val (.int i1), .val (.int i2), .val (.int i3), .val (.int i4), .val (.int i5), .val (.int (0 : Int32)), .val (.ref a149), .val (.ref s), .val (.int (0 : Int32))] at_136 rfl rfl ?_
        rw [if_pos u0] at key; exact key
      · refine wkP.ifT 138 at_132 (show (if upB [c0, c1, c2, c3, c4] 0 0 then 1 else 0) = (0 : Int32) from (by rw [if_neg u0])) (by decide) (by decide) ?_
        rw [if_neg u0] at key; exact key
    refine wkP.aload 140 at_138 rfl rfl rfl ?_
    refine wkP.callS 143 (M_fUn l Z a0 g _ s t [] H (by simp)) [(.ref s)] [] 0 g.2.1 (w32 g.1) (w33 g.1) (w34 g.1) (w35 g.1) (by decide) at_140 (lenOf pd20 rfl) rfl rfl rfl (by simp) (Nat.le_of_eq rfl) (by decide) (by decide) (by decide) (by decide) rfl ?_
    rintro v167 _ o167 ⟨rfl, rfl, rfl⟩ K167
    refine wkP.iload 145 at_143 rfl rfl ?_
    have pl := plain0  
    have e9 : fu (([] : List Int32).map kd) 0 = (if upB [c0, c1, c2, c3, c4] 0 0 then (0 : Int32) else (if upB [c0, c1, c2, c3, c4] 0 1 then (1 : Int32) else (if upB [c0, c1, c2, c3, c4] 0 2 then (2 : Int32) else (if upB [c0, c1, c2, c3, c4] 0 3 then (3 : Int32) else (if upB [c0, c1, c2, c3, c4] 0 4 then (4 : Int32) else (-1 : Int32)))))) := by
      refine Eq.trans (show _ = _ from pl) ?_
      simp [five, upK, upB]
    refine wkP.icmpF 148 at_145 (show ¬ (¬ (fu (([] : List Int32).map kd) 0) = (if upB [c0, c1, c2, c3, c4] 0 0 then (0 : Int32) else (if upB [c0, c1, c2, c3, c4] 0 1 then (1 : Int32) else (if upB [c0, c1, c2, c3, c4] 0 2 then (2 : Int32) else (if upB [c0, c1, c2, c3, c4] 0 3 then (3 : Int32) else (if upB [c0, c1, c2, c3, c4] 0 4 then (4 : Int32) else (-1 : Int32))))))) from (fun q => q e9)) rfl ?_
    refine wkP.iconst 149 (1 : Int32) at_148 rfl rfl ?_
    refine wkP.goto 153 at_149 (by decide) (by decide) ?_
    exact wkP.retI .boolean [] g.2.1 at_153 rfl (by simp) rfl (by decide) (by decide) (by simp) rfl
  · skip
    by_cases hn_1 : n = 1
    · subst hn_1
      refine wkP.callS 63 (M_make1 l Z a0 g _ a149 c0 c1 c2 c3 c4 A159 hk) [(.int (1 : Int32)), (.ref a149)] [] 0 g.2.1 (w5 g.1) (w6 g.1) (w3 g.1) (w7 g.1) (by decide) at_60 (lenOf pd18 rfl) rfl rfl rfl (by simp) (Nat.le_of_eq rfl) (by decide) (by decide) (by decide) (by decide) rfl ?_
      rintro v168 h168 o168 ⟨s, t, rfl, rfl, H⟩ K168
      have z168 := K168.1
      refine wkP.astore 65 #[.val (.int i0), .val (.int i1), .val (.int i2), .val (.int i3), .val (.int i4), .val (.int i5), .val (.int (1 : Int32)), .val (.ref a149), .val (.ref s), .unset] at_63 rfl rfl rfl ?_
      refine wkP.iconst 66 (-1 : Int32) at_65 rfl rfl ?_
      refine wkP.istore 68 #[.val (.int i0), .val (.int i1), .val (.int i2), .val (.int i3), .val (.int i4), .val (.int i5), .val (.int (1 : Int32)), .val (.ref a149), .val (.ref s), .val (.int (-1 : Int32))] at_66 rfl rfl ?_
      refine wkP.aload 70 at_68 rfl rfl rfl ?_
      refine wkP.iload 72 at_70 rfl rfl ?_
      refine wkP.iconst 73 (4 : Int32) at_72 rfl rfl ?_
      have A159_169 := (A159.keep K168 nn0)
      refine wkP.callS 76 (M_upA l Z a0 g _ a149 [c0, c1, c2, c3, c4] 1 4 A159_169 (by simp) (by decide)) [(.ref a149), (.int (1 : Int32)), (.int (4 : Int32))] [] 0 g.2.1 (w29 g.1) (w30 g.1) (w3 g.1) (w31 g.1) (by decide) at_73 (lenOf pd19 rfl) rfl rfl rfl (by simp) (Nat.le_of_eq rfl) (by decide) (by decide) (by decide) (by decide) rfl ?_
      rintro v170 _ o170 ⟨rfl, rfl, rfl⟩ K170
      suffices key : wkP l Z blaw room_1 h [] (fun v h' os => v = some (.int 1)) [a149] h168 7 29 82 #[.val (.int i0), .val (.int i1), .val (.int i2), .val (.int i3), .val (.int i4), .val (.int i5), .val (.int (1 : Int32)), .val (.ref a149), .val (.ref s), .val (.int (if upB [c0, c1, c2, c3, c4] 1 4 then (4 : Int32) else (-1 : Int32)))] [] by
        by_cases u4 : upB [c0, c1, c2, c3, c4] 1 4 = true
        · refine wkP.ifF 79 at_76 (show ¬ ((if upB [c0, c1, c2, c3, c4] 1 4 then 1 else 0) = (0 : Int32)) from (by rw [if_pos u4]; decide)) rfl ?_
          refine wkP.iconst 80 (4 : Int32) at_79 rfl rfl ?_
          refine wkP.istore 82 #[.val (.int i0), .val (.int i1), .val (.int i2), .val (.int i3), .val (.int i4), .val (.int i5), .val (.int (1 : Int32)), .val (.ref a149), .val (.ref s), .val (.int (4 : Int32))] at_80 rfl rfl ?_
          rw [if_pos u4] at key; exact key
        · refine wkP.ifT 82 at_76 (show (if upB [c0, c1, c2, c3, c4] 1 4 then 1 else 0) = (0 : Int32) from (by rw [if_neg u4])) (by decide) (by decide) ?_
          rw [if_neg u4] at key; exact key
      refine wkP.aload 84 at_82 rfl rfl rfl ?_
      refine wkP.iload 86 at_84 rfl rfl ?_
      refine wkP.iconst 87 (3 : Int32) at_86 rfl rfl ?_
      refine wkP.callS 90 (M_upA l Z a0 g _ a149 [c0, c1, c2, c3, c4] 1 3 A159_169 (by simp) (by decide)) [(.ref a149), (.int (1 : Int32)), (.int (3 : Int32))] [] 0 g.2.1 (w29 g.1) (w30 g.1) (w3 g.1) (w31 g.1) (by decide) at_87 (lenOf pd19 rfl) rfl rfl rfl (by simp) (Nat.le_of_eq rfl) (by decide) (by decide) (by decide) (by decide) rfl ?_
      rintro v171 _ o171 ⟨rfl, rfl, rfl⟩ K171
      suffices key : wkP l Z blaw room_1 h [] (fun v h' os => v = some (.int 1)) [a149] h168 7 29 96 #[.val (.int i0), .val (.int i1), .val (.int i2), .val (.int i3), .val (.int i4), .val (.int i5), .val (.int (1 : Int32)), .val (.ref a149), .val (.ref s), .val (.int (if upB [c0, c1, c2, c3, c4] 1 3 then (3 : Int32) else (if upB [c0, c1, c2, c3, c4] 1 4 then (4 : Int32) else (-1 : Int32))))] [] by
        by_cases u3 : upB [c0, c1, c2, c3, c4] 1 3 = true
        · refine wkP.ifF 93 at_90 (show ¬ ((if upB [c0, c1, c2, c3, c4] 1 3 then 1 else 0) = (0 : Int32)) from (by rw [if_pos u3]; decide)) rfl ?_
          refine wkP.iconst 94 (3 : Int32) at_93 rfl rfl ?_
          refine wkP.istore 96 #[.val (.int i0), .val (.int i1), .val (.int i2), .val (.int i3), .val (.int i4), .val (.int i5), .val (.int (1 : Int32)), .val (.ref a149), .val (.ref s), .val (.int (3 : Int32))] at_94 rfl rfl ?_
          rw [if_pos u3] at key; exact key
        · refine wkP.ifT 96 at_90 (show (if upB [c0, c1, c2, c3, c4] 1 3 then 1 else 0) = (0 : Int32) from (by rw [if_neg u3])) (by decide) (by decide) ?_
          rw [if_neg u3] at key; exact key
      refine wkP.aload 98 at_96 rfl rfl rfl ?_
      refine wkP.iload 100 at_98 rfl rfl ?_
      refine wkP.iconst 101 (2 : Int32) at_100 rfl rfl ?_
      refine wkP.callS 104 (M_upA l Z a0 g _ a149 [c0, c1, c2, c3, c4] 1 2 A159_169 (by simp) (by decide)) [(.ref a149), (.int (1 : Int32)), (.int (2 : Int32))] [] 0 g.2.1 (w29 g.1) (w30 g.1) (w3 g.1) (w31 g.1) (by decide) at_101 (lenOf pd19 rfl) rfl rfl rfl (by simp) (Nat.le_of_eq rfl) (by decide) (by decide) (by decide) (by decide) rfl ?_
      rintro v172 _ o172 ⟨rfl, rfl, rfl⟩ K172
      suffices key : wkP l Z blaw room_1 h [] (fun v h' os => v = some (.int 1)) [a149] h168 7 29 110 #[.val (.int i0), .val (.int i1), .val (.int i2), .val (.int i3), .val (.int i4), .val (.int i5), .val (.int (1 : Int32)), .val (.ref a149), .val (.ref s), .val (.int (if upB [c0, c1, c2, c3, c4] 1 2 then (2 : Int32) else (if upB [c0, c1, c2, c3, c4] 1 3 then (3 : Int32) else (if upB [c0, c1, c2, c3, c4] 1 4 then (4 : Int32) else (-1 : Int32)))))] [] by
        by_cases u2 : upB [c0, c1, c2, c3, c4] 1 2 = true
        · refine wkP.ifF 107 at_104 (show ¬ ((if upB [c0, c1, c2, c3, c4] 1 2 then 1 else 0) = (0 : Int32)) from (by rw [if_pos u2]; decide)) rfl ?_
          refine wkP.iconst 108 (2 : Int32) at_107 rfl rfl ?_
          refine wkP.istore 110 #[.val (.int i0), .val (.int i1), .val (.int i2), .val (.int i3), .val (.int i4), .val (.int i5), .val (.int (1 : Int32)), .val (.ref a149), .val (.ref s), .val (.int (2 : Int32))] at_108 rfl rfl ?_
          rw [if_pos u2] at key; exact key
        · refine wkP.ifT 110 at_104 (show (if upB [c0, c1, c2, c3, c4] 1 2 then 1 else 0) = (0 : Int32) from (by rw [if_neg u2])) (by decide) (by decide) ?_
          rw [if_neg u2] at key; exact key
      refine wkP.aload 112 at_110 rfl rfl rfl ?_
      refine wkP.iload 114 at_112 rfl rfl ?_
      refine wkP.iconst 115 (1 : Int32) at_114 rfl rfl ?_
      refine wkP.callS 118 (M_upA l Z a0 g _ a149 [c0, c1, c2, c3, c4] 1 1 A159_169 (by simp) (by decide)) [(.ref a149), (.int (1 : Int32)), (.int (1 : Int32))] [] 0 g.2.1 (w29 g.1) (w30 g.1) (w3 g.1) (w31 g.1) (by decide) at_115 (lenOf pd19 rfl) rfl rfl rfl (by simp) (Nat.le_of_eq rfl) (by decide) (by decide) (by decide) (by decide) rfl ?_
      rintro v173 _ o173 ⟨rfl, rfl, rfl⟩ K173
      suffices key : wkP l Z blaw room_1 h [] (fun v h' os => v = some (.int 1)) [a149] h168 7 29 124 #[.val (.int i0), .val (.int i1), .val (.int i2), .val (.int i3), .val (.int i4), .val (.int i5), .val (.int (1 : Int32)), .val (.ref a149), .val (.ref s), .val (.int (if upB [c0, c1, c2, c3, c4] 1 1 then (1 : Int32) else (if upB [c0, c1, c2, c3, c4] 1 2 then (2 : Int32) else (if upB [c0, c1, c2, c3, c4] 1 3 then (3 : Int32) else (if upB [c0, c1, c2, c3, c4] 1 4 then (4 : Int32) else (-1 : Int32))))))] [] by
        by_cases u1 : upB [c0, c1, c2, c3, c4] 1 1 = true
        · refine wkP.ifF 121 at_118 (show ¬ ((if upB [c0, c1, c2, c3, c4] 1 1 then 1 else 0) = (0 : Int32)) from (by rw [if_pos u1]; decide)) rfl ?_
          refine wkP.iconst 122 (1 : Int32) at_121 rfl rfl ?_
          refine wkP.istore 124 #[.val (.int i0), .val (.int i1), .val (.int i2), .val (.int i3), .val (.int i4), .val (.int i5), .val (.int (1 : Int32)), .val (.ref a149), .val (.ref s), .val (.int (1 : Int32))] at_122 rfl rfl ?_
          rw [if_pos u1] at key; exact key
        · refine wkP.ifT 124 at_118 (show (if upB [c0, c1, c2, c3, c4] 1 1 then 1 else 0) = (0 : Int32) from (by rw [if_neg u1])) (by decide) (by decide) ?_
          rw [if_neg u1] at key; exact key
      refine wkP.aload 126 at_124 rfl rfl rfl ?_
      refine wkP.iload 128 at_126 rfl rfl ?_
      refine wkP.iconst 129 (0 : Int32) at_128 rfl rfl ?_
      refine wkP.callS 132 (M_upA l Z a0 g _ a149 [c0, c1, c2, c3, c4] 1 0 A159_169 (by simp) (by decide)) [(.ref a149), (.int (1 : Int32)), (.int (0 : Int32))] [] 0 g.2.1 (w29 g.1) (w30 g.1) (w3 g.1) (w31 g.1) (by decide) at_129 (lenOf pd19 rfl) rfl rfl rfl (by simp) (Nat.le_of_eq rfl) (by decide) (by decide) (by decide) (by decide) rfl ?_
      rintro v174 _ o174 ⟨rfl, rfl, rfl⟩ K174
      suffices key : wkP l Z blaw room_1 h [] (fun v h' os => v = some (.int 1)) [a149] h168 7 29 138 #[.val (.int i0), .val (.int i1), .val (.int i2), .val (.int i3), .val (.int i4), .val (.int i5), .val (.int (1 : Int32)), .val (.ref a149), .val (.ref s), .val (.int (if upB [c0, c1, c2, c3, c4] 1 0 then (0 : Int32) else (if upB [c0, c1, c2, c3, c4] 1 1 then (1 : Int32) else (if upB [c0, c1, c2, c3, c4] 1 2 then (2 : Int32) else (if upB [c0, c1, c2, c3, c4] 1 3 then (3 : Int32) else (if upB [c0, c1, c2, c3, c4] 1 4 then (4 : Int32) else (-1 : Int32)))))))] [] by
        by_cases u0 : upB [c0, c1, c2, c3, c4] 1 0 = true
        · refine wkP.ifF 135 at_132 (show ¬ ((if upB [c0, c1, c2, c3, c4] 1 0 then 1 else 0) = (0 : Int32)) from (by rw [if_pos u0]; decide)) rfl ?_
          refine wkP.iconst 136 (0 : Int32) at_135 rfl rfl ?_
          refine wkP.istore 138 #[.val (.int i0), .val (.int i1), .val (.int i2), .val (.int i3), .val (.int i4), .val (.int i5), .val (.int (1 : Int32)), .val (.ref a149), .val (.ref s), .val (.int (0 : Int32))] at_136 rfl rfl ?_
          rw [if_pos u0] at key; exact key
        · refine wkP.ifT 138 at_132 (show (if upB [c0, c1, c2, c3, c4] 1 0 then 1 else 0) = (0 : Int32) from (by rw [if_neg u0])) (by decide) (by decide) ?_
          rw [if_neg u0] at key; exact key
      refine wkP.aload 140 at_138 rfl rfl rfl ?_
      refine wkP.callS 143 (M_fUn l Z a0 g _ s t [c0] H (by simp)) [(.ref s)] [] 0 g.2.1 (w32 g.1) (w33 g.1) (w34 g.1) (w35 g.1) (by decide) at_140 (lenOf pd20 rfl) rfl rfl rfl (by simp) (Nat.le_of_eq rfl) (by decide) (by decide) (by decide) (by decide) rfl ?_
      rintro v175 _ o175 ⟨rfl, rfl, rfl⟩ K175
      refine wkP.iload 145 at_143 rfl rfl ?_
      have pl := plain1 (hiP c0) (loP c0) (hi_lo c0)
      have e9 : fu (([c0] : List Int32).map kd) 0 = (if upB [c0, c1, c2, c3, c4] 1 0 then (0 : Int32) else (if upB [c0, c1, c2, c3, c4] 1 1 then (1 : Int32) else (if upB [c0, c1, c2, c3, c4] 1 2 then (2 : Int32) else (if upB [c0, c1, c2, c3, c4] 1 3 then (3 : Int32) else (if upB [c0, c1, c2, c3, c4] 1 4 then (4 : Int32) else (-1 : Int32)))))) := by
        refine Eq.trans (show _ = _ from pl) ?_
        simp [five, upK, upB]
      refine wkP.icmpF 148 at_145 (show ¬ (¬ (fu (([c0] : List Int32).map kd) 0) = (if upB [c0, c1, c2, c3, c4] 1 0 then (0 : Int32) else (if upB [c0, c1, c2, c3, c4] 1 1 then (1 : Int32) else (if upB [c0, c1, c2, c3, c4] 1 2 then (2 : Int32) else (if upB [c0, c1, c2, c3, c4] 1 3 then (3 : Int32) else (if upB [c0, c1, c2, c3, c4] 1 4 then (4 : Int32) else (-1 : Int32))))))) from (fun q => q e9)) rfl ?_
      refine wkP.iconst 149 (1 : Int32) at_148 rfl rfl ?_
      refine wkP.goto 153 at_149 (by decide) (by decide) ?_
      exact wkP.retI .boolean [] g.2.1 at_153 rfl (by simp) rfl (by decide) (by decide) (by simp) rfl
    · skip
      by_cases hn_2 : n = 2
      · subst hn_2
        refine wkP.callS 63 (M_make2 l Z a0 g _ a149 c0 c1 c2 c3 c4 A159 hk) [(.int (2 : Int32)), (.ref a149)] [] 0 g.2.1 (w5 g.1) (w6 g.1) (w3 g.1) (w7 g.1) (by decide) at_60 (lenOf pd18 rfl) rfl rfl rfl (by simp) (Nat.le_of_eq rfl) (by decide) (by decide) (by decide) (by decide) rfl ?_
        rintro v176 h176 o176 ⟨s, t, rfl, rfl, H⟩ K176
        have z176 := K176.1
        refine wkP.astore 65 #[.val (.int i0), .val (.int i1), .val (.int i2), .val (.int i3), .val (.int i4), .val (.int i5), .val (.int (2 : Int32)), .val (.ref a149), .val (.ref s), .unset] at_63 rfl rfl rfl ?_
        refine wkP.iconst 66 (-1 : Int32) at_65 rfl rfl ?_
        refine wkP.istore 68 #[.val (.int i0), .val (.int i1), .val (.int i2), .val (.int i3), .val (.int i4), .val (.int i5), .val (.int (2 : Int32)), .val (.ref a149), .val (.ref s), .val (.int (-1 : Int32))] at_66 rfl rfl ?_
        refine wkP.aload 70 at_68 rfl rfl rfl ?_
        refine wkP.iload 72 at_70 rfl rfl ?_
        refine wkP.iconst 73 (4 : Int32) at_72 rfl rfl ?_
        have A159_177 := (A159.keep K176 nn0)
        refine wkP.callS 76 (M_upA l Z a0 g _ a149 [c0, c1, c2, c3, c4] 2 4 A159_177 (by simp) (by decide)) [(.ref a149), (.int (2 : Int32)), (.int (4 : Int32))] [] 0 g.2.1 (w29 g.1) (w30 g.1) (w3 g.1) (w31 g.1) (by decide) at_73 (lenOf pd19 rfl) rfl rfl rfl (by simp) (Nat.le_of_eq rfl) (by decide) (by decide) (by decide) (by decide) rfl ?_
        rintro v178 _ o178 ⟨rfl, rfl, rfl⟩ K178
        suffices key : wkP l Z blaw room_1 h [] (fun v h' os => v = some (.int 1)) [a149] h176 7 29 82 #[.val (.int i0), .val (.int i1), .val (.int i2), .val (.int i3), .val (.int i4), .val (.int i5), .val (.int (2 : Int32)), .val (.ref a149), .val (.ref s), .val (.int (if upB [c0, c1, c2, c3, c4] 2 4 then (4 : Int32) else (-1 : Int32)))] [] by
          by_cases u4 : upB [c0, c1, c2, c3, c4] 2 4 = true
          · refine wkP.ifF 79 at_76 (show ¬ ((if upB [c0, c1, c2, c3, c4] 2 4 then 1 else 0) = (0 : Int32)) from (by rw [if_pos u4]; decide)) rfl ?_
            refine wkP.iconst 80 (4 : Int32) at_79 rfl rfl ?_
            refine wkP.istore 82 #[.val (.int i0), .val (.int i1), .val (.int i2), .val (.int i3), .val (.int i4), .val (.int i5), .val (.int (2 : Int32)), .val (.ref a149), .val (.ref s), .val (.int (4 : Int32))] at_80 rfl rfl ?_
            rw [if_pos u4] at key; exact key
          · refine wkP.ifT 82 at_76 (show (if upB [c0, c1, c2, c3, c4] 2 4 then 1 else 0) = (0 : Int32) from (by rw [if_neg u4])) (by decide) (by decide) ?_
            rw [if_neg u4] at key; exact key
        refine wkP.aload 84 at_82 rfl rfl rfl ?_
        refine wkP.iload 86 at_84 rfl rfl ?_
        refine wkP.iconst 87 (3 : Int32) at_86 rfl rfl ?_
        refine wkP.callS 90 (M_upA l Z a0 g _ a149 [c0, c1, c2, c3, c4] 2 3 A159_177 (by simp) (by decide)) [(.ref a149), (.int (2 : Int32)), (.int (3 : Int32))] [] 0 g.2.1 (w29 g.1) (w30 g.1) (w3 g.1) (w31 g.1) (by decide) at_87 (lenOf pd19 rfl) rfl rfl rfl (by simp) (Nat.le_of_eq rfl) (by decide) (by decide) (by decide) (by decide) rfl ?_
        rintro v179 _ o179 ⟨rfl, rfl, rfl⟩ K179
        suffices key : wkP l Z blaw room_1 h [] (fun v h' os => v = some (.int 1)) [a149] h176 7 29 96 #[.val (.int i0), .val (.int i1), .val (.int i2), .val (.int i3), .val (.int i4), .val (.int i5), .val (.int (2 : Int32)), .val (.ref a149), .val (.ref s), .val (.int (if upB [c0, c1, c2, c3, c4] 2 3 then (3 : Int32) else (if upB [c0, c1, c2, c3, c4] 2 4 then (4 : Int32) else (-1 : Int32))))] [] by
          by_cases u3 : upB [c0, c1, c2, c3, c4] 2 3 = true
          · refine wkP.ifF 93 at_90 (show ¬ ((if upB [c0, c1, c2, c3, c4] 2 3 then 1 else 0) = (0 : Int32)) from (by rw [if_pos u3]; decide)) rfl ?_
            refine wkP.iconst 94 (3 : Int32) at_93 rfl rfl ?_
            refine wkP.istore 96 #[.val (.int i0), .val (.int i1), .val (.int i2), .val (.int i3), .val (.int i4), .val (.int i5), .val (.int (2 : Int32)), .val (.ref a149), .val (.ref s), .val (.int (3 : Int32))] at_94 rfl rfl ?_
            rw [if_pos u3] at key; exact key
          · refine wkP.ifT 96 at_90 (show (if upB [c0, c1, c2, c3, c4] 2 3 then 1 else 0) = (0 : Int32) from (by rw [if_neg u3])) (by decide) (by decide) ?_
            rw [if_neg u3] at key; exact key
        refine wkP.aload 98 at_96 rfl rfl rfl ?_
        refine wkP.iload 100 at_98 rfl rfl ?_
        refine wkP.iconst 101 (2 : Int32) at_100 rfl rfl ?_
        refine wkP.callS 104 (M_upA l Z a0 g _ a149 [c0, c1, c2, c3, c4] 2 2 A159_177 (by simp) (by decide)) [(.ref a149), (.int (2 : Int32)), (.int (2 : Int32))] [] 0 g.2.1 (w29 g.1) (w30 g.1) (w3 g.1) (w31 g.1) (by decide) at_101 (lenOf pd19 rfl) rfl rfl rfl (by simp) (Nat.le_of_eq rfl) (by decide) (by decide) (by decide) (by decide) rfl ?_
        rintro v180 _ o180 ⟨rfl, rfl, rfl⟩ K180
        suffices key : wkP l Z blaw room_1 h [] (fun v h' os => v = some (.int 1)) [a149] h176 7 29 110 #[.val (.int i0), .val (.int i1), .val (.int i2), .val (.int i3), .val (.int i4), .val (.int i5), .val (.int (2 : Int32)), .val (.ref a149), .val (.ref s), .val (.int (if upB [c0, c1, c2, c3, c4] 2 2 then (2 : Int32) else (if upB [c0, c1, c2, c3, c4] 2 3 then (3 : Int32) else (if upB [c0, c1, c2, c3, c4] 2 4 then (4 : Int32) else (-1 : Int32)))))] [] by
          by_cases u2 : upB [c0, c1, c2, c3, c4] 2 2 = true
          · refine wkP.ifF 107 at_104 (show ¬ ((if upB [c0, c1, c2, c3, c4] 2 2 then 1 else 0) = (0 : Int32)) from (by rw [if_pos u2]; decide)) rfl ?_
            refine wkP.iconst 108 (2 : Int32) at_107 rfl rfl ?_
            refine wkP.istore 110 #[.val (.int i0), .val (.int i1), .val (.int i2), .val (.int i3), .val (.int i4), .val (.int i5), .val (.int (2 : Int32)), .val (.ref a149), .val (.ref s), .val (.int (2 : Int32))] at_108 rfl rfl ?_
            rw [if_pos u2] at key; exact key
          · refine wkP.ifT 110 at_104 (show (if upB [c0, c1, c2, c3, c4] 2 2 then 1 else 0) = (0 : Int32) from (by rw [if_neg u2])) (by decide) (by decide) ?_
            rw [if_neg u2] at key; exact key
        refine wkP.aload 112 at_110 rfl rfl rfl ?_
        refine wkP.iload 114 at_112 rfl rfl ?_
        refine wkP.iconst 115 (1 : Int32) at_114 rfl rfl ?_
        refine wkP.callS 118 (M_upA l Z a0 g _ a149 [c0, c1, c2, c3, c4] 2 1 A159_177 (by simp) (by decide)) [(.ref a149), (.int (2 : Int32)), (.int (1 : Int32))] [] 0 g.2.1 (w29 g.1) (w30 g.1) (w3 g.1) (w31 g.1) (by decide) at_115 (lenOf pd19 rfl) rfl rfl rfl (by simp) (Nat.le_of_eq rfl) (by decide) (by decide) (by decide) (by decide) rfl ?_
        rintro v181 _ o181 ⟨rfl, rfl, rfl⟩ K181
        suffices key : wkP l Z blaw room_1 h [] (fun v h' os => v = some (.int 1)) [a149] h176 7 29 124 #[.val (.int i0), .val (.int i1), .val (.int i2), .val (.int i3), .val (.int i4), .val (.int i5), .val (.int (2 : Int32)), .val (.ref a149), .val (.ref s), .val (.int (if upB [c0, c1, c2, c3, c4] 2 1 then (1 : Int32) else (if upB [c0, c1, c2, c3, c4] 2 2 then (2 : Int32) else (if upB [c0, c1, c2, c3, c4] 2 3 then (3 : Int32) else (if upB [c0, c1, c2, c3, c4] 2 4 then (4 : Int32) else (-1 : Int32))))))] [] by
          by_cases u1 : upB [c0, c1, c2, c3, c4] 2 1 = true
          · refine wkP.ifF 121 at_118 (show ¬ ((if upB [c0, c1, c2, c3, c4] 2 1 then 1 else 0) = (0 : Int32)) from (by rw [if_pos u1]; decide)) rfl ?_
            refine wkP.iconst 122 (1 : Int32) at_121 rfl rfl ?_
            refine wkP.istore 124 #[.val (.int i0), .val (.int i1), .val (.int i2), .val (.int i3), .val (.int i4), .val (.int i5), .val (.int (2 : Int32)), .val (.ref a149), .val (.ref s), .val (.int (1 : Int32))] at_122 rfl rfl ?_
            rw [if_pos u1] at key; exact key
          · refine wkP.ifT 124 at_118 (show (if upB [c0, c1, c2, c3, c4] 2 1 then 1 else 0) = (0 : Int32) from (by rw [if_neg u1])) (by decide) (by decide) ?_
            rw [if_neg u1] at key; exact key
        refine wkP.aload 126 at_124 rfl rfl rfl ?_
        refine wkP.iload 128 at_126 rfl rfl ?_
        refine wkP.iconst 129 (0 : Int32) at_128 rfl rfl ?_
        refine wkP.callS 132 (M_upA l Z a0 g _ a149 [c0, c1, c2, c3, c4] 2 0 A159_177 (by simp) (by decide)) [(.ref a149), (.int (2 : Int32)), (.int (0 : Int32))] [] 0 g.2.1 (w29 g.1) (w30 g.1) (w3 g.1) (w31 g.1) (by decide) at_129 (lenOf pd19 rfl) rfl rfl rfl (by simp) (Nat.le_of_eq rfl) (by decide) (by decide) (by decide) (by decide) rfl ?_
        rintro v182 _ o182 ⟨rfl, rfl, rfl⟩ K182
        suffices key : wkP l Z blaw room_1 h [] (fun v h' os => v = some (.int 1)) [a149] h176 7 29 138 #[.val (.int i0), .val (.int i1), .val (.int i2), .val (.int i3), .val (.int i4), .val (.int i5), .val (.int (2 : Int32)), .val (.ref a149), .val (.ref s), .val (.int (if upB [c0, c1, c2, c3, c4] 2 0 then (0 : Int32) else (if upB [c0, c1, c2, c3, c4] 2 1 then (1 : Int32) else (if upB [c0, c1, c2, c3, c4] 2 2 then (2 : Int32) else (if upB [c0, c1, c2, c3, c4] 2 3 then (3 : Int32) else (if upB [c0, c1, c2, c3, c4] 2 4 then (4 : Int32) else (-1 : Int32)))))))] [] by
          by_cases u0 : upB [c0, c1, c2, c3, c4] 2 0 = true
          · refine wkP.ifF 135 at_132 (show ¬ ((if upB [c0, c1, c2, c3, c4] 2 0 then 1 else 0) = (0 : Int32)) from (by rw [if_pos u0]; decide)) rfl ?_
            refine wkP.iconst 136 (0 : Int32) at_135 rfl rfl ?_
            refine wkP.istore 138 #[.val (.int i0), .val (.int i1), .val (.int i2), .val (.int i3), .val (.int i4), .val (.int i5), .val (.int (2 : Int32)), .val (.ref a149), .val (.ref s), .val (.int (0 : Int32))] at_136 rfl rfl ?_
            rw [if_pos u0] at key; exact key
          · refine wkP.ifT 138 at_132 (show (if upB [c0, c1, c2, c3, c4] 2 0 then 1 else 0) = (0 : Int32) from (by rw [if_neg u0])) (by decide) (by decide) ?_
            rw [if_neg u0] at key; exact key
        refine wkP.aload 140 at_138 rfl rfl rfl ?_
        refine wkP.callS 143 (M_fUn l Z a0 g _ s t [c0, c1] H (by simp)) [(.ref s)] [] 0 g.2.1 (w32 g.1) (w33 g.1) (w34 g.1) (w35 g.1) (by decide) at_140 (lenOf pd20 rfl) rfl rfl rfl (by simp) (Nat.le_of_eq rfl) (by decide) (by decide) (by decide) (by decide) rfl ?_
        rintro v183 _ o183 ⟨rfl, rfl, rfl⟩ K183
        refine wkP.iload 145 at_143 rfl rfl ?_
        have pl := plain2 (hiP c0) (loP c0) (hiP c1) (loP c1) (hi_lo c0) (hi_lo c1)
        have e9 : fu (([c0, c1] : List Int32).map kd) 0 = (if upB [c0, c1, c2, c3, c4] 2 0 then (0 : Int32) else (if upB [c0, c1, c2, c3, c4] 2 1 then (1 : Int32) else (if upB [c0, c1, c2, c3, c4] 2 2 then (2 : Int32) else (if upB [c0, c1, c2, c3, c4] 2 3 then (3 : Int32) else (if upB [c0, c1, c2, c3, c4] 2 4 then (4 : Int32) else (-1 : Int32)))))) := by
          refine Eq.trans (show _ = _ from pl) ?_
          simp [five, upK, upB]
        refine wkP.icmpF 148 at_145 (show ¬ (¬ (fu (([c0, c1] : List Int32).map kd) 0) = (if upB [c0, c1, c2, c3, c4] 2 0 then (0 : Int32) else (if upB [c0, c1, c2, c3, c4] 2 1 then (1 : Int32) else (if upB [c0, c1, c2, c3, c4] 2 2 then (2 : Int32) else (if upB [c0, c1, c2, c3, c4] 2 3 then (3 : Int32) else (if upB [c0, c1, c2, c3, c4] 2 4 then (4 : Int32) else (-1 : Int32))))))) from (fun q => q e9)) rfl ?_
        refine wkP.iconst 149 (1 : Int32) at_148 rfl rfl ?_
        refine wkP.goto 153 at_149 (by decide) (by decide) ?_
        exact wkP.retI .boolean [] g.2.1 at_153 rfl (by simp) rfl (by decide) (by decide) (by simp) rfl
      · skip
        by_cases hn_3 : n = 3
        · subst hn_3
          refine wkP.callS 63 (M_make3 l Z a0 g _ a149 c0 c1 c2 c3 c4 A159 hk) [(.int (3 : Int32)), (.ref a149)] [] 0 g.2.1 (w5 g.1) (w6 g.1) (w3 g.1) (w7 g.1) (by decide) at_60 (lenOf pd18 rfl) rfl rfl rfl (by simp) (Nat.le_of_eq rfl) (by decide) (by decide) (by decide) (by decide) rfl ?_
          rintro v184 h184 o184 ⟨s, t, rfl, rfl, H⟩ K184
          have z184 := K184.1
          refine wkP.astore 65 #[.val (.int i0), .val (.int i1), .val (.int i2), .val (.int i3), .val (.int i4), .val (.int i5), .val (.int (3 : Int32)), .val (.ref a149), .val (.ref s), .unset] at_63 rfl rfl rfl ?_
          refine wkP.iconst 66 (-1 : Int32) at_65 rfl rfl ?_
          refine wkP.istore 68 #[.val (.int i0), .val (.int i1), .val (.int i2), .val (.int i3), .val (.int i4), .val (.int i5), .val (.int (3 : Int32)), .val (.ref a149), .val (.ref s), .val (.int (-1 : Int32))] at_66 rfl rfl ?_
          refine wkP.aload 70 at_68 rfl rfl rfl ?_
          refine wkP.iload 72 at_70 rfl rfl ?_
          refine wkP.iconst 73 (4 : Int32) at_72 rfl rfl ?_
          have A159_185 := (A159.keep K184 nn0)
          refine wkP.callS 76 (M_upA l Z a0 g _ a149 [c0, c1, c2, c3, c4] 3 4 A159_185 (by simp) (by decide)) [(.ref a149), (.int (3 : Int32)), (.int (4 : Int32))] [] 0 g.2.1 (w29 g.1) (w30 g.1) (w3 g.1) (w31 g.1) (by decide) at_73 (lenOf pd19 rfl) rfl rfl rfl (by simp) (Nat.le_of_eq rfl) (by decide) (by decide) (by decide) (by decide) rfl ?_
          rintro v186 _ o186 ⟨rfl, rfl, rfl⟩ K186
          suffices key : wkP l Z blaw room_1 h [] (fun v h' os => v = some (.int 1)) [a149] h184 7 29 82 #[.val (.int i0), .val (.int i1), .val (.int i2), .val (.int i3), .val (.int i4), .val (.int i5), .val (.int (3 : Int32)), .val (.ref a149), .val (.ref s), .val (.int (if upB [c0, c1, c2, c3, c4] 3 4 then (4 : Int32) else (-1 : Int32)))] [] by
            by_cases u4 : upB [c0, c1, c2, c3, c4] 3 4 = true
            · refine wkP.ifF 79 at_76 (show ¬ ((if upB [c0, c1, c2, c3, c4] 3 4 then 1 else 0) = (0 : Int32)) from (by rw [if_pos u4]; decide)) rfl ?_
              refine wkP.iconst 80 (4 : Int32) at_79 rfl rfl ?_
              refine wkP.istore 82 #[.val (.int i0), .val (.int i1), .val (.int i2), .val (.int i3), .val (.int i4), .val (.int i5), .val (.int (3 : Int32)), .val (.ref a149), .val (.ref s), .val (.int (4 : Int32))] at_80 rfl rfl ?_
              rw [if_pos u4] at key; exact key
            · refine wkP.ifT 82 at_76 (show (if upB [c0, c1, c2, c3, c4] 3 4 then 1 else 0) = (0 : Int32) from (by rw [if_neg u4])) (by decide) (by decide) ?_
              rw [if_neg u4] at key; exact key
          refine wkP.aload 84 at_82 rfl rfl rfl ?_
          refine wkP.iload 86 at_84 rfl rfl ?_
          refine wkP.iconst 87 (3 : Int32) at_86 rfl rfl ?_
          refine wkP.callS 90 (M_upA l Z a0 g _ a149 [c0, c1, c2, c3, c4] 3 3 A159_185 (by simp) (by decide)) [(.ref a149), (.int (3 : Int32)), (.int (3 : Int32))] [] 0 g.2.1 (w29 g.1) (w30 g.1) (w3 g.1) (w31 g.1) (by decide) at_87 (lenOf pd19 rfl) rfl rfl rfl (by simp) (Nat.le_of_eq rfl) (by decide) (by decide) (by decide) (by decide) rfl ?_
          rintro v187 _ o187 ⟨rfl, rfl, rfl⟩ K187
          suffices key : wkP l Z blaw room_1 h [] (fun v h' os => v = some (.int 1)) [a149] h184 7 29 96 #[.val (.int i0), .val (.int i1), .val (.int i2), .val (.int i3), .val (.int i4), .val (.int i5), .val (.int (3 : Int32)), .val (.ref a149), .val (.ref s), .val (.int (if upB [c0, c1, c2, c3, c4] 3 3 then (3 : Int32) else (if upB [c0, c1, c2, c3, c4] 3 4 then (4 : Int32) else (-1 : Int32))))] [] by
            by_cases u3 : upB [c0, c1, c2, c3, c4] 3 3 = true
            · refine wkP.ifF 93 at_90 (show ¬ ((if upB [c0, c1, c2, c3, c4] 3 3 then 1 else 0) = (0 : Int32)) from (by rw [if_pos u3]; decide)) rfl ?_
              refine wkP.iconst 94 (3 : Int32) at_93 rfl rfl ?_
              refine wkP.istore 96 #[.val (.int i0), .val (.int i1), .val (.int i2), .val (.int i3), .val (.int i4), .val (.int i5), .val (.int (3 : Int32)), .val (.ref a149), .val (.ref s), .val (.int (3 : Int32))] at_94 rfl rfl ?_
              rw [if_pos u3] at key; exact key
            · refine wkP.ifT 96 at_90 (show (if upB [c0, c1, c2, c3, c4] 3 3 then 1 else 0) = (0 : Int32) from (by rw [if_neg u3])) (by decide) (by decide) ?_
              rw [if_neg u3] at key; exact key
          refine wkP.aload 98 at_96 rfl rfl rfl ?_
          refine wkP.iload 100 at_98 rfl rfl ?_
          refine wkP.iconst 101 (2 : Int32) at_100 rfl rfl ?_
          refine wkP.callS 104 (M_upA l Z a0 g _ a149 [c0, c1, c2, c3, c4] 3 2 A159_185 (by simp) (by decide)) [(.ref a149), (.int (3 : Int32)), (.int (2 : Int32))] [] 0 g.2.1 (w29 g.1) (w30 g.1) (w3 g.1) (w31 g.1) (by decide) at_101 (lenOf pd19 rfl) rfl rfl rfl (by simp) (Nat.le_of_eq rfl) (by decide) (by decide) (by decide) (by decide) rfl ?_
          rintro v188 _ o188 ⟨rfl, rfl, rfl⟩ K188
          suffices key : wkP l Z blaw room_1 h [] (fun v h' os => v = some (.int 1)) [a149] h184 7 29 110 #[.val (.int i0), .val (.int i1), .val (.int i2), .val (.int i3), .val (.int i4), .val (.int i5), .val (.int (3 : Int32)), .val (.ref a149), .val (.ref s), .val (.int (if upB [c0, c1, c2, c3, c4] 3 2 then (2 : Int32) else (if upB [c0, c1, c2, c3, c4] 3 3 then (3 : Int32) else (if upB [c0, c1, c2, c3, c4] 3 4 then (4 : Int32) else (-1 : Int32)))))] [] by
            by_cases u2 : upB [c0, c1, c2, c3, c4] 3 2 = true
            · refine wkP.ifF 107 at_104 (show ¬ ((if upB [c0, c1, c2, c3, c4] 3 2 then 1 else 0) = (0 : Int32)) from (by rw [if_pos u2]; decide)) rfl ?_
              refine wkP.iconst 108 (2 : Int32) at_107 rfl rfl ?_
              refine wkP.istore 110 #[.val (.int i0), .val (.int i1), .val (.int i2), .val (.int i3), .val (.int i4), .val (.int i5), .val (.int (3 : Int32)), .val (.ref a149), .val (.ref s), .val (.int (2 : Int32))] at_108 rfl rfl ?_
              rw [if_pos u2] at key; exact key
            · refine wkP.ifT 110 at_104 (show (if upB [c0, c1, c2, c3, c4] 3 2 then 1 else 0) = (0 : Int32) from (by rw [if_neg u2])) (by decide) (by decide) ?_
              rw [if_neg u2] at key; exact key
          refine wkP.aload 112 at_110 rfl rfl rfl ?_
          refine wkP.iload 114 at_112 rfl rfl ?_
          refine wkP.iconst 115 (1 : Int32) at_114 rfl rfl ?_
          refine wkP.callS 118 (M_upA l Z a0 g _ a149 [c0, c1, c2, c3, c4] 3 1 A159_185 (by simp) (by decide)) [(.ref a149), (.int (3 : Int32)), (.int (1 : Int32))] [] 0 g.2.1 (w29 g.1) (w30 g.1) (w3 g.1) (w31 g.1) (by decide) at_115 (lenOf pd19 rfl) rfl rfl rfl (by simp) (Nat.le_of_eq rfl) (by decide) (by decide) (by decide) (by decide) rfl ?_
          rintro v189 _ o189 ⟨rfl, rfl, rfl⟩ K189
          suffices key : wkP l Z blaw room_1 h [] (fun v h' os => v = some (.int 1)) [a149] h184 7 29 124 #[.val (.int i0), .val (.int i1), .val (.int i2), .val (.int i3), .val (.int i4), .val (.int i5), .val (.int (3 : Int32)), .val (.ref a149), .val (.ref s), .val (.int (if upB [c0, c1, c2, c3, c4] 3 1 then (1 : Int32) else (if upB [c0, c1, c2, c3, c4] 3 2 then (2 : Int32) else (if upB [c0, c1, c2, c3, c4] 3 3 then (3 : Int32) else (if upB [c0, c1, c2, c3, c4] 3 4 then (4 : Int32) else (-1 : Int32))))))] [] by
            by_cases u1 : upB [c0, c1, c2, c3, c4] 3 1 = true
            · refine wkP.ifF 121 at_118 (show ¬ ((if upB [c0, c1, c2, c3, c4] 3 1 then 1 else 0) = (0 : Int32)) from (by rw [if_pos u1]; decide)) rfl ?_
              refine wkP.iconst 122 (1 : Int32) at_121 rfl rfl ?_
              refine wkP.istore 124 #[.val (.int i0), .val (.int i1), .val (.int i2), .val (.int i3), .val (.int i4), .val (.int i5), .val (.int (3 : Int32)), .val (.ref a149), .val (.ref s), .val (.int (1 : Int32))] at_122 rfl rfl ?_
              rw [if_pos u1] at key; exact key
            · refine wkP.ifT 124 at_118 (show (if upB [c0, c1, c2, c3, c4] 3 1 then 1 else 0) = (0 : Int32) from (by rw [if_neg u1])) (by decide) (by decide) ?_
              rw [if_neg u1] at key; exact key
          refine wkP.aload 126 at_124 rfl rfl rfl ?_
          refine wkP.iload 128 at_126 rfl rfl ?_
          refine wkP.iconst 129 (0 : Int32) at_128 rfl rfl ?_
          refine wkP.callS 132 (M_upA l Z a0 g _ a149 [c0, c1, c2, c3, c4] 3 0 A159_185 (by simp) (by decide)) [(.ref a149), (.int (3 : Int32)), (.int (0 : Int32))] [] 0 g.2.1 (w29 g.1) (w30 g.1) (w3 g.1) (w31 g.1) (by decide) at_129 (lenOf pd19 rfl) rfl rfl rfl (by simp) (Nat.le_of_eq rfl) (by decide) (by decide) (by decide) (by decide) rfl ?_
          rintro v190 _ o190 ⟨rfl, rfl, rfl⟩ K190
          suffices key : wkP l Z blaw room_1 h [] (fun v h' os => v = some (.int 1)) [a149] h184 7 29 138 #[.val (.int i0), .val (.int i1), .val (.int i2), .val (.int i3), .val (.int i4), .val (.int i5), .val (.int (3 : Int32)), .val (.ref a149), .val (.ref s), .val (.int (if upB [c0, c1, c2, c3, c4] 3 0 then (0 : Int32) else (if upB [c0, c1, c2, c3, c4] 3 1 then (1 : Int32) else (if upB [c0, c1, c2, c3, c4] 3 2 then (2 : Int32) else (if upB [c0, c1, c2, c3, c4] 3 3 then (3 : Int32) else (if upB [c0, c1, c2, c3, c4] 3 4 then (4 : Int32) else (-1 : Int32)))))))] [] by
            by_cases u0 : upB [c0, c1, c2, c3, c4] 3 0 = true
            · refine wkP.ifF 135 at_132 (show ¬ ((if upB [c0, c1, c2, c3, c4] 3 0 then 1 else 0) = (0 : Int32)) from (by rw [if_pos u0]; decide)) rfl ?_
              refine wkP.iconst 136 (0 : Int32) at_135 rfl rfl ?_
              refine wkP.istore 138 #[.val (.int i0), .val (.int i1), .val (.int i2), .val (.int i3), .val (.int i4), .val (.int i5), .val (.int (3 : Int32)), .val (.ref a149), .val (.ref s), .val (.int (0 : Int32))] at_136 rfl rfl ?_
              rw [if_pos u0] at key; exact key
            · refine wkP.ifT 138 at_132 (show (if upB [c0, c1, c2, c3, c4] 3 0 then 1 else 0) = (0 : Int32) from (by rw [if_neg u0])) (by decide) (by decide) ?_
              rw [if_neg u0] at key; exact key
          refine wkP.aload 140 at_138 rfl rfl rfl ?_
          refine wkP.callS 143 (M_fUn l Z a0 g _ s t [c0, c1, c2] H (by simp)) [(.ref s)] [] 0 g.2.1 (w32 g.1) (w33 g.1) (w34 g.1) (w35 g.1) (by decide) at_140 (lenOf pd20 rfl) rfl rfl rfl (by simp) (Nat.le_of_eq rfl) (by decide) (by decide) (by decide) (by decide) rfl ?_
          rintro v191 _ o191 ⟨rfl, rfl, rfl⟩ K191
          refine wkP.iload 145 at_143 rfl rfl ?_
          have pl := plain3 (hiP c0) (loP c0) (hiP c1) (loP c1) (hiP c2) (loP c2) (hi_lo c0) (hi_lo c1) (hi_lo c2)
          have e9 : fu (([c0, c1, c2] : List Int32).map kd) 0 = (if upB [c0, c1, c2, c3, c4] 3 0 then (0 : Int32) else (if upB [c0, c1, c2, c3, c4] 3 1 then (1 : Int32) else (if upB [c0, c1, c2, c3, c4] 3 2 then (2 : Int32) else (if upB [c0, c1, c2, c3, c4] 3 3 then (3 : Int32) else (if upB [c0, c1, c2, c3, c4] 3 4 then (4 : Int32) else (-1 : Int32)))))) := by
            refine Eq.trans (show _ = _ from pl) ?_
            simp [five, upK, upB]
          refine wkP.icmpF 148 at_145 (show ¬ (¬ (fu (([c0, c1, c2] : List Int32).map kd) 0) = (if upB [c0, c1, c2, c3, c4] 3 0 then (0 : Int32) else (if upB [c0, c1, c2, c3, c4] 3 1 then (1 : Int32) else (if upB [c0, c1, c2, c3, c4] 3 2 then (2 : Int32) else (if upB [c0, c1, c2, c3, c4] 3 3 then (3 : Int32) else (if upB [c0, c1, c2, c3, c4] 3 4 then (4 : Int32) else (-1 : Int32))))))) from (fun q => q e9)) rfl ?_
          refine wkP.iconst 149 (1 : Int32) at_148 rfl rfl ?_
          refine wkP.goto 153 at_149 (by decide) (by decide) ?_
          exact wkP.retI .boolean [] g.2.1 at_153 rfl (by simp) rfl (by decide) (by decide) (by simp) rfl
        · skip
          by_cases hn_4 : n = 4
          · subst hn_4
            refine wkP.callS 63 (M_make4 l Z a0 g _ a149 c0 c1 c2 c3 c4 A159 hk) [(.int (4 : Int32)), (.ref a149)] [] 0 g.2.1 (w5 g.1) (w6 g.1) (w3 g.1) (w7 g.1) (by decide) at_60 (lenOf pd18 rfl) rfl rfl rfl (by simp) (Nat.le_of_eq rfl) (by decide) (by decide) (by decide) (by decide) rfl ?_
            rintro v192 h192 o192 ⟨s, t, rfl, rfl, H⟩ K192
            have z192 := K192.1
            refine wkP.astore 65 #[.val (.int i0), .val (.int i1), .val (.int i2), .val (.int i3), .val (.int i4), .val (.int i5), .val (.int (4 : Int32)), .val (.ref a149), .val (.ref s), .unset] at_63 rfl rfl rfl ?_
            refine wkP.iconst 66 (-1 : Int32) at_65 rfl rfl ?_
            refine wkP.istore 68 #[.val (.int i0), .val (.int i1), .val (.int i2), .val (.int i3), .val (.int i4), .val (.int i5), .val (.int (4 : Int32)), .val (.ref a149), .val (.ref s), .val (.int (-1 : Int32))] at_66 rfl rfl ?_
            refine wkP.aload 70 at_68 rfl rfl rfl ?_
            refine wkP.iload 72 at_70 rfl rfl ?_
            refine wkP.iconst 73 (4 : Int32) at_72 rfl rfl ?_
            have A159_193 := (A159.keep K192 nn0)
            refine wkP.callS 76 (M_upA l Z a0 g _ a149 [c0, c1, c2, c3, c4] 4 4 A159_193 (by simp) (by decide)) [(.ref a149), (.int (4 : Int32)), (.int (4 : Int32))] [] 0 g.2.1 (w29 g.1) (w30 g.1) (w3 g.1) (w31 g.1) (by decide) at_73 (lenOf pd19 rfl) rfl rfl rfl (by simp) (Nat.le_of_eq rfl) (by decide) (by decide) (by decide) (by decide) rfl ?_
            rintro v194 _ o194 ⟨rfl, rfl, rfl⟩ K194
            suffices key : wkP l Z blaw room_1 h [] (fun v h' os => v = some (.int 1)) [a149] h192 7 29 82 #[.val (.int i0), .val (.int i1), .val (.int i2), .val (.int i3), .val (.int i4), .val (.int i5), .val (.int (4 : Int32)), .val (.ref a149), .val (.ref s), .val (.int (if upB [c0, c1, c2, c3, c4] 4 4 then (4 : Int32) else (-1 : Int32)))] [] by
              by_cases u4 : upB [c0, c1, c2, c3, c4] 4 4 = true
              · refine wkP.ifF 79 at_76 (show ¬ ((if upB [c0, c1, c2, c3, c4] 4 4 then 1 else 0) = (0 : Int32)) from (by rw [if_pos u4]; decide)) rfl ?_
                refine wkP.iconst 80 (4 : Int32) at_79 rfl rfl ?_
                refine wkP.istore 82 #[.val (.int i0), .val (.int i1), .val (.int i2), .val (.int i3), .val (.int i4), .val (.int i5), .val (.int (4 : Int32)), .val (.ref a149), .val (.ref s), .val (.int (4 : Int32))] at_80 rfl rfl ?_
                rw [if_pos u4] at key; exact key
              · refine wkP.ifT 82 at_76 (show (if upB [c0, c1, c2, c3, c4] 4 4 then 1 else 0) = (0 : Int32) from (by rw [if_neg u4])) (by decide) (by decide) ?_
                rw [if_neg u4] at key; exact key
            refine wkP.aload 84 at_82 rfl rfl rfl ?_
            refine wkP.iload 86 at_84 rfl rfl ?_
            refine wkP.iconst 87 (3 : Int32) at_86 rfl rfl ?_
            refine wkP.callS 90 (M_upA l Z a0 g _ a149 [c0, c1, c2, c3, c4] 4 3 A159_193 (by simp) (by decide)) [(.ref a149), (.int (4 : Int32)), (.int (3 : Int32))] [] 0 g.2.1 (w29 g.1) (w30 g.1) (w3 g.1) (w31 g.1) (by decide) at_87 (lenOf pd19 rfl) rfl rfl rfl (by simp) (Nat.le_of_eq rfl) (by decide) (by decide) (by decide) (by decide) rfl ?_
            rintro v195 _ o195 ⟨rfl, rfl, rfl⟩ K195
            suffices key : wkP l Z blaw room_1 h [] (fun v h' os => v = some (.int 1)) [a149] h192 7 29 96 #[.val (.int i0), .val (.int i1), .val (.int i2), .val (.int i3), .val (.int i4), .val (.int i5), .val (.int (4 : Int32)), .val (.ref a149), .val (.ref s), .val (.int (if upB [c0, c1, c2, c3, c4] 4 3 then (3 : Int32) else (if upB [c0, c1, c2, c3, c4] 4 4 then (4 : Int32) else (-1 : Int32))))] [] by
              by_cases u3 : upB [c0, c1, c2, c3, c4] 4 3 = true
              · refine wkP.ifF 93 at_90 (show ¬ ((if upB [c0, c1, c2, c3, c4] 4 3 then 1 else 0) = (0 : Int32)) from (by rw [if_pos u3]; decide)) rfl ?_
                refine wkP.iconst 94 (3 : Int32) at_93 rfl rfl ?_
                refine wkP.istore 96 #[.val (.int i0), .val (.int i1), .val (.int i2), .val (.int i3), .val (.int i4), .val (.int i5), .val (.int (4 : Int32)), .val (.ref a149), .val (.ref s), .val (.int (3 : Int32))] at_94 rfl rfl ?_
                rw [if_pos u3] at key; exact key
              · refine wkP.ifT 96 at_90 (show (if upB [c0, c1, c2, c3, c4] 4 3 then 1 else 0) = (0 : Int32) from (by rw [if_neg u3])) (by decide) (by decide) ?_
                rw [if_neg u3] at key; exact key
            refine wkP.aload 98 at_96 rfl rfl rfl ?_
            refine wkP.iload 100 at_98 rfl rfl ?_
            refine wkP.iconst 101 (2 : Int32) at_100 rfl rfl ?_
            refine wkP.callS 104 (M_upA l Z a0 g _ a149 [c0, c1, c2, c3, c4] 4 2 A159_193 (by simp) (by decide)) [(.ref a149), (.int (4 : Int32)), (.int (2 : Int32))] [] 0 g.2.1 (w29 g.1) (w30 g.1) (w3 g.1) (w31 g.1) (by decide) at_101 (lenOf pd19 rfl) rfl rfl rfl (by simp) (Nat.le_of_eq rfl) (by decide) (by decide) (by decide) (by decide) rfl ?_
            rintro v196 _ o196 ⟨rfl, rfl, rfl⟩ K196
            suffices key : wkP l Z blaw room_1 h [] (fun v h' os => v = some (.int 1)) [a149] h192 7 29 110 #[.val (.int i0), .val (.int i1), .val (.int i2), .val (.int i3), .val (.int i4), .val (.int i5), .val (.int (4 : Int32)), .val (.ref a149), .val (.ref s), .val (.int (if upB [c0, c1, c2, c3, c4] 4 2 then (2 : Int32) else (if upB [c0, c1, c2, c3, c4] 4 3 then (3 : Int32) else (if upB [c0, c1, c2, c3, c4] 4 4 then (4 : Int32) else (-1 : Int32)))))] [] by
              by_cases u2 : upB [c0, c1, c2, c3, c4] 4 2 = true
              · refine wkP.ifF 107 at_104 (show ¬ ((if upB [c0, c1, c2, c3, c4] 4 2 then 1 else 0) = (0 : Int32)) from (by rw [if_pos u2]; decide)) rfl ?_
                refine wkP.iconst 108 (2 : Int32) at_107 rfl rfl ?_
                refine wkP.istore 110 #[.val (.int i0), .val (.int i1), .val (.int i2), .val (.int i3), .val (.int i4), .val (.int i5), .val (.int (4 : Int32)), .val (.ref a149), .val (.ref s), .val (.int (2 : Int32))] at_108 rfl rfl ?_
                rw [if_pos u2] at key; exact key
              · refine wkP.ifT 110 at_104 (show (if upB [c0, c1, c2, c3, c4] 4 2 then 1 else 0) = (0 : Int32) from (by rw [if_neg u2])) (by decide) (by decide) ?_
                rw [if_neg u2] at key; exact key
            refine wkP.aload 112 at_110 rfl rfl rfl ?_
            refine wkP.iload 114 at_112 rfl rfl ?_
            refine wkP.iconst 115 (1 : Int32) at_114 rfl rfl ?_
            refine wkP.callS 118 (M_upA l Z a0 g _ a149 [c0, c1, c2, c3, c4] 4 1 A159_193 (by simp) (by decide)) [(.ref a149), (.int (4 : Int32)), (.int (1 : Int32))] [] 0 g.2.1 (w29 g.1) (w30 g.1) (w3 g.1) (w31 g.1) (by decide) at_115 (lenOf pd19 rfl) rfl rfl rfl (by simp) (Nat.le_of_eq rfl) (by decide) (by decide) (by decide) (by decide) rfl ?_
            rintro v197 _ o197 ⟨rfl, rfl, rfl⟩ K197
            suffices key : wkP l Z blaw room_1 h [] (fun v h' os => v = some (.int 1)) [a149] h192 7 29 124 #[.val (.int i0), .val (.int i1), .val (.int i2), .val (.int i3), .val (.int i4), .val (.int i5), .val (.int (4 : Int32)), .val (.ref a149), .val (.ref s), .val (.int (if upB [c0, c1, c2, c3, c4] 4 1 then (1 : Int32) else (if upB [c0, c1, c2, c3, c4] 4 2 then (2 : Int32) else (if upB [c0, c1, c2, c3, c4] 4 3 then (3 : Int32) else (if upB [c0, c1, c2, c3, c4] 4 4 then (4 : Int32) else (-1 : Int32))))))] [] by
              by_cases u1 : upB [c0, c1, c2, c3, c4] 4 1 = true
              · refine wkP.ifF 121 at_118 (show ¬ ((if upB [c0, c1, c2, c3, c4] 4 1 then 1 else 0) = (0 : Int32)) from (by rw [if_pos u1]; decide)) rfl ?_
                refine wkP.iconst 122 (1 : Int32) at_121 rfl rfl ?_
                refine wkP.istore 124 #[.val (.int i0), .val (.int i1), .val (.int i2), .val (.int i3), .val (.int i4), .val (.int i5), .val (.int (4 : Int32)), .val (.ref a149), .val (.ref s), .val (.int (1 : Int32))] at_122 rfl rfl ?_
                rw [if_pos u1] at key; exact key
              · refine wkP.ifT 124 at_118 (show (if upB [c0, c1, c2, c3, c4] 4 1 then 1 else 0) = (0 : Int32) from (by rw [if_neg u1])) (by decide) (by decide) ?_
                rw [if_neg u1] at key; exact key
            refine wkP.aload 126 at_124 rfl rfl rfl ?_
            refine wkP.iload 128 at_126 rfl rfl ?_
            refine wkP.iconst 129 (0 : Int32) at_128 rfl rfl ?_
            refine wkP.callS 132 (M_upA l Z a0 g _ a149 [c0, c1, c2, c3, c4] 4 0 A159_193 (by simp) (by decide)) [(.ref a149), (.int (4 : Int32)), (.int (0 : Int32))] [] 0 g.2.1 (w29 g.1) (w30 g.1) (w3 g.1) (w31 g.1) (by decide) at_129 (lenOf pd19 rfl) rfl rfl rfl (by simp) (Nat.le_of_eq rfl) (by decide) (by decide) (by decide) (by decide) rfl ?_
            rintro v198 _ o198 ⟨rfl, rfl, rfl⟩ K198
            suffices key : wkP l Z blaw room_1 h [] (fun v h' os => v = some (.int 1)) [a149] h192 7 29 138 #[.val (.int i0), .val (.int i1), .val (.int i2), .val (.int i3), .val (.int i4), .val (.int i5), .val (.int (4 : Int32)), .val (.ref a149), .val (.ref s), .val (.int (if upB [c0, c1, c2, c3, c4] 4 0 then (0 : Int32) else (if upB [c0, c1, c2, c3, c4] 4 1 then (1 : Int32) else (if upB [c0, c1, c2, c3, c4] 4 2 then (2 : Int32) else (if upB [c0, c1, c2, c3, c4] 4 3 then (3 : Int32) else (if upB [c0, c1, c2, c3, c4] 4 4 then (4 : Int32) else (-1 : Int32)))))))] [] by
              by_cases u0 : upB [c0, c1, c2, c3, c4] 4 0 = true
              · refine wkP.ifF 135 at_132 (show ¬ ((if upB [c0, c1, c2, c3, c4] 4 0 then 1 else 0) = (0 : Int32)) from (by rw [if_pos u0]; decide)) rfl ?_
                refine wkP.iconst 136 (0 : Int32) at_135 rfl rfl ?_
                refine wkP.istore 138 #[.val (.int i0), .val (.int i1), .val (.int i2), .val (.int i3), .val (.int i4), .val (.int i5), .val (.int (4 : Int32)), .val (.ref a149), .val (.ref s), .val (.int (0 : Int32))] at_136 rfl rfl ?_
                rw [if_pos u0] at key; exact key
              · refine wkP.ifT 138 at_132 (show (if upB [c0, c1, c2, c3, c4] 4 0 then 1 else 0) = (0 : Int32) from (by rw [if_neg u0])) (by decide) (by decide) ?_
                rw [if_neg u0] at key; exact key
            refine wkP.aload 140 at_138 rfl rfl rfl ?_
            refine wkP.callS 143 (M_fUn l Z a0 g _ s t [c0, c1, c2, c3] H (by simp)) [(.ref s)] [] 0 g.2.1 (w32 g.1) (w33 g.1) (w34 g.1) (w35 g.1) (by decide) at_140 (lenOf pd20 rfl) rfl rfl rfl (by simp) (Nat.le_of_eq rfl) (by decide) (by decide) (by decide) (by decide) rfl ?_
            rintro v199 _ o199 ⟨rfl, rfl, rfl⟩ K199
            refine wkP.iload 145 at_143 rfl rfl ?_
            have pl := plain4 (hiP c0) (loP c0) (hiP c1) (loP c1) (hiP c2) (loP c2) (hiP c3) (loP c3) (hi_lo c0) (hi_lo c1) (hi_lo c2) (hi_lo c3)
            have e9 : fu (([c0, c1, c2, c3] : List Int32).map kd) 0 = (if upB [c0, c1, c2, c3, c4] 4 0 then (0 : Int32) else (if upB [c0, c1, c2, c3, c4] 4 1 then (1 : Int32) else (if upB [c0, c1, c2, c3, c4] 4 2 then (2 : Int32) else (if upB [c0, c1, c2, c3, c4] 4 3 then (3 : Int32) else (if upB [c0, c1, c2, c3, c4] 4 4 then (4 : Int32) else (-1 : Int32)))))) := by
              refine Eq.trans (show _ = _ from pl) ?_
              simp [five, upK, upB]
            refine wkP.icmpF 148 at_145 (show ¬ (¬ (fu (([c0, c1, c2, c3] : List Int32).map kd) 0) = (if upB [c0, c1, c2, c3, c4] 4 0 then (0 : Int32) else (if upB [c0, c1, c2, c3, c4] 4 1 then (1 : Int32) else (if upB [c0, c1, c2, c3, c4] 4 2 then (2 : Int32) else (if upB [c0, c1, c2, c3, c4] 4 3 then (3 : Int32) else (if upB [c0, c1, c2, c3, c4] 4 4 then (4 : Int32) else (-1 : Int32))))))) from (fun q => q e9)) rfl ?_
            refine wkP.iconst 149 (1 : Int32) at_148 rfl rfl ?_
            refine wkP.goto 153 at_149 (by decide) (by decide) ?_
            exact wkP.retI .boolean [] g.2.1 at_153 rfl (by simp) rfl (by decide) (by decide) (by simp) rfl
          · skip
            obtain rfl : n = 5 := by
              rw [← Int32.toInt_inj] at *
              simp only [Int32.reduceToInt] at *; omega
            refine wkP.callS 63 (M_make5 l Z a0 g _ a149 c0 c1 c2 c3 c4 A159 hk) [(.int (5 : Int32)), (.ref a149)] [] 0 g.2.1 (w5 g.1) (w6 g.1) (w3 g.1) (w7 g.1) (by decide) at_60 (lenOf pd18 rfl) rfl rfl rfl (by simp) (Nat.le_of_eq rfl) (by decide) (by decide) (by decide) (by decide) rfl ?_
            rintro v200 h200 o200 ⟨s, t, rfl, rfl, H⟩ K200
            have z200 := K200.1
            refine wkP.astore 65 #[.val (.int i0), .val (.int i1), .val (.int i2), .val (.int i3), .val (.int i4), .val (.int i5), .val (.int (5 : Int32)), .val (.ref a149), .val (.ref s), .unset] at_63 rfl rfl rfl ?_
            refine wkP.iconst 66 (-1 : Int32) at_65 rfl rfl ?_
            refine wkP.istore 68 #[.val (.int i0), .val (.int i1), .val (.int i2), .val (.int i3), .val (.int i4), .val (.int i5), .val (.int (5 : Int32)), .val (.ref a149), .val (.ref s), .val (.int (-1 : Int32))] at_66 rfl rfl ?_
            refine wkP.aload 70 at_68 rfl rfl rfl ?_
            refine wkP.iload 72 at_70 rfl rfl ?_
            refine wkP.iconst 73 (4 : Int32) at_72 rfl rfl ?_
            have A159_201 := (A159.keep K200 nn0)
            refine wkP.callS 76 (M_upA l Z a0 g _ a149 [c0, c1, c2, c3, c4] 5 4 A159_201 (by simp) (by decide)) [(.ref a149), (.int (5 : Int32)), (.int (4 : Int32))] [] 0 g.2.1 (w29 g.1) (w30 g.1) (w3 g.1) (w31 g.1) (by decide) at_73 (lenOf pd19 rfl) rfl rfl rfl (by simp) (Nat.le_of_eq rfl) (by decide) (by decide) (by decide) (by decide) rfl ?_
            rintro v202 _ o202 ⟨rfl, rfl, rfl⟩ K202
            suffices key : wkP l Z blaw room_1 h [] (fun v h' os => v = some (.int 1)) [a149] h200 7 29 82 #[.val (.int i0), .val (.int i1), .val (.int i2), .val (.int i3), .val (.int i4), .val (.int i5), .val (.int (5 : Int32)), .val (.ref a149), .val (.ref s), .val (.int (if upB [c0, c1, c2, c3, c4] 5 4 then (4 : Int32) else (-1 : Int32)))] [] by
              by_cases u4 : upB [c0, c1, c2, c3, c4] 5 4 = true
              · refine wkP.ifF 79 at_76 (show ¬ ((if upB [c0, c1, c2, c3, c4] 5 4 then 1 else 0) = (0 : Int32)) from (by rw [if_pos u4]; decide)) rfl ?_
                refine wkP.iconst 80 (4 : Int32) at_79 rfl rfl ?_
                refine wkP.istore 82 #[.val (.int i0), .val (.int i1), .val (.int i2), .val (.int i3), .val (.int i4), .val (.int i5), .val (.int (5 : Int32)), .val (.ref a149), .val (.ref s), .val (.int (4 : Int32))] at_80 rfl rfl ?_
                rw [if_pos u4] at key; exact key
              · refine wkP.ifT 82 at_76 (show (if upB [c0, c1, c2, c3, c4] 5 4 then 1 else 0) = (0 : Int32) from (by rw [if_neg u4])) (by decide) (by decide) ?_
                rw [if_neg u4] at key; exact key
            refine wkP.aload 84 at_82 rfl rfl rfl ?_
            refine wkP.iload 86 at_84 rfl rfl ?_
            refine wkP.iconst 87 (3 : Int32) at_86 rfl rfl ?_
            refine wkP.callS 90 (M_upA l Z a0 g _ a149 [c0, c1, c2, c3, c4] 5 3 A159_201 (by simp) (by decide)) [(.ref a149), (.int (5 : Int32)), (.int (3 : Int32))] [] 0 g.2.1 (w29 g.1) (w30 g.1) (w3 g.1) (w31 g.1) (by decide) at_87 (lenOf pd19 rfl) rfl rfl rfl (by simp) (Nat.le_of_eq rfl) (by decide) (by decide) (by decide) (by decide) rfl ?_
            rintro v203 _ o203 ⟨rfl, rfl, rfl⟩ K203
            suffices key : wkP l Z blaw room_1 h [] (fun v h' os => v = some (.int 1)) [a149] h200 7 29 96 #[.val (.int i0), .val (.int i1), .val (.int i2), .val (.int i3), .val (.int i4), .val (.int i5), .val (.int (5 : Int32)), .val (.ref a149), .val (.ref s), .val (.int (if upB [c0, c1, c2, c3, c4] 5 3 then (3 : Int32) else (if upB [c0, c1, c2, c3, c4] 5 4 then (4 : Int32) else (-1 : Int32))))] [] by
              by_cases u3 : upB [c0, c1, c2, c3, c4] 5 3 = true
              · refine wkP.ifF 93 at_90 (show ¬ ((if upB [c0, c1, c2, c3, c4] 5 3 then 1 else 0) = (0 : Int32)) from (by rw [if_pos u3]; decide)) rfl ?_
                refine wkP.iconst 94 (3 : Int32) at_93 rfl rfl ?_
                refine wkP.istore 96 #[.val (.int i0), .val (.int i1), .val (.int i2), .val (.int i3), .val (.int i4), .val (.int i5), .val (.int (5 : Int32)), .val (.ref a149), .val (.ref s), .val (.int (3 : Int32))] at_94 rfl rfl ?_
                rw [if_pos u3] at key; exact key
              · refine wkP.ifT 96 at_90 (show (if upB [c0, c1, c2, c3, c4] 5 3 then 1 else 0) = (0 : Int32) from (by rw [if_neg u3])) (by decide) (by decide) ?_
                rw [if_neg u3] at key; exact key
            refine wkP.aload 98 at_96 rfl rfl rfl ?_
            refine wkP.iload 100 at_98 rfl rfl ?_
            refine wkP.iconst 101 (2 : Int32) at_100 rfl rfl ?_
            refine wkP.callS 104 (M_upA l Z a0 g _ a149 [c0, c1, c2, c3, c4] 5 2 A159_201 (by simp) (by decide)) [(.ref a149), (.int (5 : Int32)), (.int (2 : Int32))] [] 0 g.2.1 (w29 g.1) (w30 g.1) (w3 g.1) (w31 g.1) (by decide) at_101 (lenOf pd19 rfl) rfl rfl rfl (by simp) (Nat.le_of_eq rfl) (by decide) (by decide) (by decide) (by decide) rfl ?_
            rintro v204 _ o204 ⟨rfl, rfl, rfl⟩ K204
            suffices key : wkP l Z blaw room_1 h [] (fun v h' os => v = some (.int 1)) [a149] h200 7 29 110 #[.val (.int i0), .val (.int i1), .val (.int i2), .val (.int i3), .val (.int i4), .val (.int i5), .val (.int (5 : Int32)), .val (.ref a149), .val (.ref s), .val (.int (if upB [c0, c1, c2, c3, c4] 5 2 then (2 : Int32) else (if upB [c0, c1, c2, c3, c4] 5 3 then (3 : Int32) else (if upB [c0, c1, c2, c3, c4] 5 4 then (4 : Int32) else (-1 : Int32)))))] [] by
              by_cases u2 : upB [c0, c1, c2, c3, c4] 5 2 = true
              · refine wkP.ifF 107 at_104 (show ¬ ((if upB [c0, c1, c2, c3, c4] 5 2 then 1 else 0) = (0 : Int32)) from (by rw [if_pos u2]; decide)) rfl ?_
                refine wkP.iconst 108 (2 : Int32) at_107 rfl rfl ?_
                refine wkP.istore 110 #[.val (.int i0), .val (.int i1), .val (.int i2), .val (.int i3), .val (.int i4), .val (.int i5), .val (.int (5 : Int32)), .val (.ref a149), .val (.ref s), .val (.int (2 : Int32))] at_108 rfl rfl ?_
                rw [if_pos u2] at key; exact key
              · refine wkP.ifT 110 at_104 (show (if upB [c0, c1, c2, c3, c4] 5 2 then 1 else 0) = (0 : Int32) from (by rw [if_neg u2])) (by decide) (by decide) ?_
                rw [if_neg u2] at key; exact key
            refine wkP.aload 112 at_110 rfl rfl rfl ?_
            refine wkP.iload 114 at_112 rfl rfl ?_
            refine wkP.iconst 115 (1 : Int32) at_114 rfl rfl ?_
            refine wkP.callS 118 (M_upA l Z a0 g _ a149 [c0, c1, c2, c3, c4] 5 1 A159_201 (by simp) (by decide)) [(.ref a149), (.int (5 : Int32)), (.int (1 : Int32))] [] 0 g.2.1 (w29 g.1) (w30 g.1) (w3 g.1) (w31 g.1) (by decide) at_115 (lenOf pd19 rfl) rfl rfl rfl (by simp) (Nat.le_of_eq rfl) (by decide) (by decide) (by decide) (by decide) rfl ?_
            rintro v205 _ o205 ⟨rfl, rfl, rfl⟩ K205
            suffices key : wkP l Z blaw room_1 h [] (fun v h' os => v = some (.int 1)) [a149] h200 7 29 124 #[.val (.int i0), .val (.int i1), .val (.int i2), .val (.int i3), .val (.int i4), .val (.int i5), .val (.int (5 : Int32)), .val (.ref a149), .val (.ref s), .val (.int (if upB [c0, c1, c2, c3, c4] 5 1 then (1 : Int32) else (if upB [c0, c1, c2, c3, c4] 5 2 then (2 : Int32) else (if upB [c0, c1, c2, c3, c4] 5 3 then (3 : Int32) else (if upB [c0, c1, c2, c3, c4] 5 4 then (4 : Int32) else (-1 : Int32))))))] [] by
              by_cases u1 : upB [c0, c1, c2, c3, c4] 5 1 = true
              · refine wkP.ifF 121 at_118 (show ¬ ((if upB [c0, c1, c2, c3, c4] 5 1 then 1 else 0) = (0 : Int32)) from (by rw [if_pos u1]; decide)) rfl ?_
                refine wkP.iconst 122 (1 : Int32) at_121 rfl rfl ?_
                refine wkP.istore 124 #[.val (.int i0), .val (.int i1), .val (.int i2), .val (.int i3), .val (.int i4), .val (.int i5), .val (.int (5 : Int32)), .val (.ref a149), .val (.ref s), .val (.int (1 : Int32))] at_122 rfl rfl ?_
                rw [if_pos u1] at key; exact key
              · refine wkP.ifT 124 at_118 (show (if upB [c0, c1, c2, c3, c4] 5 1 then 1 else 0) = (0 : Int32) from (by rw [if_neg u1])) (by decide) (by decide) ?_
                rw [if_neg u1] at key; exact key
            refine wkP.aload 126 at_124 rfl rfl rfl ?_
            refine wkP.iload 128 at_126 rfl rfl ?_
            refine wkP.iconst 129 (0 : Int32) at_128 rfl rfl ?_
            refine wkP.callS 132 (M_upA l Z a0 g _ a149 [c0, c1, c2, c3, c4] 5 0 A159_201 (by simp) (by decide)) [(.ref a149), (.int (5 : Int32)), (.int (0 : Int32))] [] 0 g.2.1 (w29 g.1) (w30 g.1) (w3 g.1) (w31 g.1) (by decide) at_129 (lenOf pd19 rfl) rfl rfl rfl (by simp) (Nat.le_of_eq rfl) (by decide) (by decide) (by decide) (by decide) rfl ?_
            rintro v206 _ o206 ⟨rfl, rfl, rfl⟩ K206
            suffices key : wkP l Z blaw room_1 h [] (fun v h' os => v = some (.int 1)) [a149] h200 7 29 138 #[.val (.int i0), .val (.int i1), .val (.int i2), .val (.int i3), .val (.int i4), .val (.int i5), .val (.int (5 : Int32)), .val (.ref a149), .val (.ref s), .val (.int (if upB [c0, c1, c2, c3, c4] 5 0 then (0 : Int32) else (if upB [c0, c1, c2, c3, c4] 5 1 then (1 : Int32) else (if upB [c0, c1, c2, c3, c4] 5 2 then (2 : Int32) else (if upB [c0, c1, c2, c3, c4] 5 3 then (3 : Int32) else (if upB [c0, c1, c2, c3, c4] 5 4 then (4 : Int32) else (-1 : Int32)))))))] [] by
              by_cases u0 : upB [c0, c1, c2, c3, c4] 5 0 = true
              · refine wkP.ifF 135 at_132 (show ¬ ((if upB [c0, c1, c2, c3, c4] 5 0 then 1 else 0) = (0 : Int32)) from (by rw [if_pos u0]; decide)) rfl ?_
                refine wkP.iconst 136 (0 : Int32) at_135 rfl rfl ?_
                refine wkP.istore 138 #[.val (.int i0), .val (.int i1), .val (.int i2), .val (.int i3), .val (.int i4), .val (.int i5), .val (.int (5 : Int32)), .val (.ref a149), .val (.ref s), .val (.int (0 : Int32))] at_136 rfl rfl ?_
                rw [if_pos u0] at key; exact key
              · refine wkP.ifT 138 at_132 (show (if upB [c0, c1, c2, c3, c4] 5 0 then 1 else 0) = (0 : Int32) from (by rw [if_neg u0])) (by decide) (by decide) ?_
                rw [if_neg u0] at key; exact key
            refine wkP.aload 140 at_138 rfl rfl rfl ?_
            refine wkP.callS 143 (M_fUn l Z a0 g _ s t [c0, c1, c2, c3, c4] H (by simp)) [(.ref s)] [] 0 g.2.1 (w32 g.1) (w33 g.1) (w34 g.1) (w35 g.1) (by decide) at_140 (lenOf pd20 rfl) rfl rfl rfl (by simp) (Nat.le_of_eq rfl) (by decide) (by decide) (by decide) (by decide) rfl ?_
            rintro v207 _ o207 ⟨rfl, rfl, rfl⟩ K207
            refine wkP.iload 145 at_143 rfl rfl ?_
            have pl := plain5 (hiP c0) (loP c0) (hiP c1) (loP c1) (hiP c2) (loP c2) (hiP c3) (loP c3) (hiP c4) (loP c4) (hi_lo c0) (hi_lo c1) (hi_lo c2) (hi_lo c3) (hi_lo c4)
            have e9 : fu (([c0, c1, c2, c3, c4] : List Int32).map kd) 0 = (if upB [c0, c1, c2, c3, c4] 5 0 then (0 : Int32) else (if upB [c0, c1, c2, c3, c4] 5 1 then (1 : Int32) else (if upB [c0, c1, c2, c3, c4] 5 2 then (2 : Int32) else (if upB [c0, c1, c2, c3, c4] 5 3 then (3 : Int32) else (if upB [c0, c1, c2, c3, c4] 5 4 then (4 : Int32) else (-1 : Int32)))))) := by
              refine Eq.trans (show _ = _ from pl) ?_
              simp [five, upK, upB]
            refine wkP.icmpF 148 at_145 (show ¬ (¬ (fu (([c0, c1, c2, c3, c4] : List Int32).map kd) 0) = (if upB [c0, c1, c2, c3, c4] 5 0 then (0 : Int32) else (if upB [c0, c1, c2, c3, c4] 5 1 then (1 : Int32) else (if upB [c0, c1, c2, c3, c4] 5 2 then (2 : Int32) else (if upB [c0, c1, c2, c3, c4] 5 3 then (3 : Int32) else (if upB [c0, c1, c2, c3, c4] 5 4 then (4 : Int32) else (-1 : Int32))))))) from (fun q => q e9)) rfl ?_
            refine wkP.iconst 149 (1 : Int32) at_148 rfl rfl ?_
            refine wkP.goto 153 at_149 (by decide) (by decide) ?_
            exact wkP.retI .boolean [] g.2.1 at_153 rfl (by simp) rfl (by decide) (by decide) (by simp) rfl
theorem own_EW {Z : State} {a0 : Array Value} (hw : ∀ d ∈ tables_1, d.before a0 Z = true) : EW Z a0 EL := by
  exact (EW.cons (text := "") (w21 hw) (by decide) EW.nil)
set_option maxRecDepth 65536 in
set_option maxHeartbeats 4000000 in
theorem comes_1 {Post : Tables → Env → Array Value → State → Outcome → State → Prop} (hpost : ∀ tb e args s v u, (limb_1_1.after args s (.returned v) u = true ∧ limb_1_2.after args s (.returned v) u = true ∧ True) → FramedW s (.returned v) u (Jvm.fieldLocs frame_1_writes args s ++ Jvm.arrayLocs frame_1_arrays args s ++ Jvm.staticLocs frame_1_statics s) 24 1152 → Post tb e args s (.returned v) u) :
    ArmFor flags0 classFile x code maxLocals ret World_1 tables_1 room_1 Calls_1 rest_1 Pre_1 Post := by
  intro l hfl _ _ p e ha hc hk s m args below hf hA hF happ hP
  obtain ⟨hcalls, hrest, hpre⟩ := hP
  obtain ⟨-, -, -, hnamed, -, -, -, hat⟩ := (Spec.applies_iff hf).mp happ
  obtain ⟨hg, hn⟩ := and_e (Cond.before_iff.mp (show (Jvm.Cond.and given_1 narrow_1).before args s = true from hpre))
  obtain ⟨q0, hg⟩ := and_e hg
  obtain ⟨q1, hg⟩ := and_e hg
  obtain ⟨q2, hg⟩ := and_e hg
  obtain ⟨q3, hg⟩ := and_e hg
  obtain ⟨q4, hg⟩ := and_e hg
  obtain ⟨q5, hg⟩ := and_e hg
  have q6 := hg
  obtain ⟨u0, u1, u2, u3, u4, u5, rfl⟩ : ∃ u0 u1 u2 u3 u4 u5 : Value, args = #[u0, u1, u2, u3, u4, u5] := by
    have hs : args.size = 6 := by simpa [Cond.value, given_1] using q0
    obtain ⟨L⟩ := args
    match L, hs with
    | [u0, u1, u2, u3, u4, u5], _ => exact ⟨u0, u1, u2, u3, u4, u5, rfl⟩
  have hw := fun d (hd : d ∈ tables_1) => atoms_spec (ws := Jvm.Cond.code x code maxLocals ret :: tables_1) hat d (List.mem_cons_of_mem _ hd)
  obtain ⟨hsets, hown0⟩ := atoms_of _ (rest_1_c_eq ▸ (show rest_1_c.before _ s = true from hrest))
  obtain ⟨i0, e0⟩ := is_v q1
  obtain rfl : u0 = (.int i0) := Option.some.inj e0
  obtain ⟨i1, e1⟩ := is_v q2
  obtain rfl : u1 = (.int i1) := Option.some.inj e1
  obtain ⟨i2, e2⟩ := is_v q3
  obtain rfl : u2 = (.int i2) := Option.some.inj e2
  obtain ⟨i3, e3⟩ := is_v q4
  obtain rfl : u3 = (.int i3) := Option.some.inj e3
  obtain ⟨i4, e4⟩ := is_v q5
  obtain rfl : u4 = (.int i4) := Option.some.inj e4
  obtain ⟨i5, e5⟩ := is_v q6
  obtain rfl : u5 = (.int i5) := Option.some.inj e5
  have n3 := not_v (Cond.before_iff.mp (hsets _ (List.mem_of_getElem? (i := 2) rfl)))
  obtain ⟨zc, ezc⟩ := is_v (Cond.before_iff.mp (hsets _ (List.mem_of_getElem? (i := 1) rfl)))
  have S8 : Sta s s.heap "java/lang/String" "COMPACT_STRINGS" "Z" (.int zc) := Sta.start ezc (Or.inl (hsets _ (List.mem_of_getElem? (i := 0) rfl)))
  have c13 : ¬ (zc = (0 : Int32)) := gotF (Cond.eq_ints ezc (Term.int_eval (0))) n3
  obtain ⟨fm, efm, rfm⟩ := isR_v (Cond.before_iff.mp (hsets _ (List.mem_of_getElem? (i := 8) rfl)))
  have S9 : Sta s s.heap "jdk/internal/util/Preconditions" "SIOOBE_FORMATTER" "Ljava/util/function/BiFunction;" fm := Sta.start efm (Or.inl (hsets _ (List.mem_of_getElem? (i := 7) rfl)))
  have T0 : Sta s s.heap "java/lang/StringUTF16" "$assertionsDisabled" "Z" (.int 1) := Sta.start (Cond.eq_int (hsets _ (List.mem_of_getElem? (i := 12) rfl)) rfl) (Or.inl (hsets _ (List.mem_of_getElem? (i := 11) rfl)))
  have T1 : Sta s s.heap "java/lang/StringUTF16" "HI_BYTE_SHIFT" "I" (.int 0) := Sta.start (Cond.eq_int (hsets _ (List.mem_of_getElem? (i := 15) rfl)) rfl) (Or.inl (hsets _ (List.mem_of_getElem? (i := 14) rfl)))
  have T2 : Sta s s.heap "java/lang/StringUTF16" "LO_BYTE_SHIFT" "I" (.int 8) := Sta.start (Cond.eq_int (hsets _ (List.mem_of_getElem? (i := 18) rfl)) rfl) (Or.inl (hsets _ (List.mem_of_getElem? (i := 17) rfl)))
  have hE := own_EW hw
  have hCH : CHv s EL s.vm s.heap := CHv.start hE (fun q hq => hcalls.1 q hq) (hsets _ (List.mem_of_getElem? (i := 2) rfl)) (sAtoms hw _ (by simp [Bundle.stringAtoms])) (sAtoms hw _ (by simp [Bundle.stringAtoms, Bundle.sN]))
  obtain ⟨b1, b2, b3, b4, b5, b6, b7, -⟩ := (Spec.appliesLoose_iff hf).mp ((Spec.applies_iff_loose hf).mp happ).1
  have hcode := atoms_spec (ws := Jvm.Cond.code x code maxLocals ret :: tables_1) hat _ (List.mem_cons_self ..)
  have hap : (head1 [Jvm.Cond.code x code maxLocals ret] room_1).appliesLoose x e.platform s = true := (Spec.appliesLoose_iff hf).mpr ⟨b1, b2, b3, b4, b5, b6, b7, by show (Jvm.Cond.and _ .tt).before _ s = true; rw [Cond.before_and, hcode]; rfl⟩
  obtain ⟨n, o, h1, h2, h3, v, L, rfl, ⟨os, rfl, -, N, -, -⟩, -, hq⟩ := M_law l s _ ⟨hw, hE, ⟨zc, S8, c13⟩, ⟨fm, S9, rfm⟩, T0, T1, T2⟩ s.heap i0 i1 i2 i3 i4 i5 (Old.start s) (by simp) p e ha hc hk s m _ below hf hap ⟨rfl, State.Warmed39.refl s, rfl, hCH, by simp⟩ trivial
  exact ⟨n, _, h1, h2, h3, hpost _ _ _ _ _ _ ⟨Cond.after_iff.mpr rfl, Cond.after_iff.mpr (eq_i res_at (Term.int_eval (1)) rfl), trivial⟩ ⟨hq.1, hq.2.1, hq.2.2.1, (hq.2.2.2.sift fun y hy => Or.inr (N y hy)).mono (by decide) (by decide)⟩⟩
theorem main_1_1 : Claimed_1_1 := comes_1 fun _ _ _ _ _ _ h hF => ⟨h.1, hF⟩
theorem main_1_2 : Claimed_1_2 := comes_1 fun _ _ _ _ _ _ h hF => ⟨h.2.1, hF⟩
end Jvm.Pilot.@@N@@
namespace Jvm.Pilot.@@N@@
open Jvm Jvm.ClassFile Sem Op Lib Jvm.Free Jvm.Stand Jvm.Pilot.@@N@@.Jvm.D
/-! MADE BY PROGRAM (witnessworld.py) out of the Statement's table words and the real class files: 21 classes; the members and pool entries that the words name. The judged class is class 1, her method 1. -/
namespace start1
open Jvm.ClassFile
def u (s : String) : CpInfo := .utf8 (stringToUtf16 s)
/-- a pool by its gaps: so many unusable entries, then the entry; so many at the end -/
def gap : Nat → List CpInfo → List CpInfo
  | 0, r => r
  | n + 1, r => .unusable :: gap n r
def poolList (es : List (Nat × CpInfo)) (last : Nat) : List CpInfo := es.foldr (fun e r => gap e.1 (e.2 :: r)) (gap last [])
def pool (es : List (Nat × CpInfo)) (last : Nat) : Array CpInfo := ⟨poolList es last⟩
def fileOf (pool : Array CpInfo) (this : Nat) (attrs : Array Attribute := #[]) (ms : Array MethodInfo := #[]) (fl : Nat := 33) (sup : Nat := 0) (ifs : Array Nat := #[]) (fds : Array FieldInfo := #[]) : ClassFile where
  minorVersion := 0
  majorVersion := 65
  constantPool := pool
  accessFlags := fl
  thisClass := this
  superClass := sup
  interfaces := ifs
  fields := fds
  methods := ms
  attributes := attrs
def plain (name : String) (sup : Option ClassId) : Class where
  name := name
  kind := .ordinary
  loader := none
  accessFlags := 33
  super := sup
  interfaces := #[]
  cf := none
  fields := #[]
  methods := #[]
  instanceTypes := #[]
  staticTypes := #[]
  resolved := #[]
  callSites := []
  init := .initialized
  statics := none
  mirror := none

def pool0 : Array CpInfo := pool [(5, u "<init>"), (0, u "()V"), (1, .class_ 10), (1, u "java/lang/Object")] 113

def k0c0 : Code := { maxStack := 0, maxLocals := 1, code := object_method_1_code, exceptionTable := #[], attributes := #[] }
def k0m0 : Method := { name := "<init>", desc := "()V", sig := { parameters := [], returnType := none }, accessFlags := 1, code := some k0c0 }
/-- java/lang/Object -/
def k0 : Class := { plain "java/lang/Object" none with
  accessFlags := 33
  interfaces := #[]
  cf := some (fileOf pool0 8 #[] #[{ accessFlags := 1, nameIndex := 5, descriptorIndex := 6, attributes := #[] }] 33 0 #[] #[])
  fields := #[]
  methods := #[k0m0]
  instanceTypes := #[]
  staticTypes := #[]
  resolved := Array.replicate 124 none
  statics := none }

def pool1 : Array CpInfo := pool [(2, .class_ 4), (1, u "java/lang/Object"), (0, u "<init>"), (0, u "()V"), (0, .methodref 8 9), (0, .class_ 10), (0, .nameAndType 11 12), (0, u "com/example/vestline/vestline/input/SurrogatesFindUnpairedPinLaw"), (0, u "draw"), (0, u "(I)C"), (0, .methodref 8 14), (0, .nameAndType 15 16), (0, u "make"), (0, u "(I[C)Ljava/lang/String;"), (0, .methodref 8 18), (0, .nameAndType 19 20), (0, u "unpairedAt"), (0, u "([CII)Z"), (0, .methodref 22 23), (0, .class_ 24), (0, .nameAndType 25 26), (0, u "com/example/vestline/vestline/input/Surrogates"), (0, u "findUnpaired"), (0, u "(Ljava/lang/String;)I"), (0, .integer 55296), (0, .integer 56320), (0, .class_ 30), (0, u "java/lang/String"), (0, .methodref 29 32), (0, .nameAndType 5 33), (0, u "([C)V"), (0, .integer 56319), (0, .integer 57343), (0, .methodref 8 37), (0, .nameAndType 38 39), (0, u "isHigh"), (0, u "(C)Z"), (0, .methodref 8 41), (0, .nameAndType 42 39), (0, u "isLow"), (2, u "law"), (0, u "(IIIIII)Z")] 5

def k1m0 : Method := { name := "<init>", desc := "()V", sig := { parameters := [], returnType := none }, accessFlags := 2, code := none }
def k1c1 : Code := { maxStack := 3, maxLocals := 10, code := code, exceptionTable := #[], attributes := #[] }
def k1m1 : Method := { name := "law", desc := "(IIIIII)Z", sig := { parameters := [.int, .int, .int, .int, .int, .int], returnType := some .boolean }, accessFlags := 9, code := some k1c1 }
def k1c2 : Code := { maxStack := 3, maxLocals := 2, code := method_3_code, exceptionTable := #[], attributes := #[] }
def k1m2 : Method := { name := "draw", desc := "(I)C", sig := { parameters := [.int], returnType := some .char }, accessFlags := 10, code := some k1c2 }
def k1c3 : Code := { maxStack := 7, maxLocals := 2, code := method_4_code, exceptionTable := #[], attributes := #[] }
def k1m3 : Method := { name := "make", desc := "(I[C)Ljava/lang/String;", sig := { parameters := [.int, (.array .char)], returnType := some (.object "java/lang/String") }, accessFlags := 10, code := some k1c3 }
def k1c4 : Code := { maxStack := 2, maxLocals := 1, code := method_5_code, exceptionTable := #[], attributes := #[] }
def k1m4 : Method := { name := "isHigh", desc := "(C)Z", sig := { parameters := [.char], returnType := some .boolean }, accessFlags := 10, code := some k1c4 }
def k1c5 : Code := { maxStack := 2, maxLocals := 1, code := method_6_code, exceptionTable := #[], attributes := #[] }
def k1m5 : Method := { name := "isLow", desc := "(C)Z", sig := { parameters := [.char], returnType := some .boolean }, accessFlags := 10, code := some k1c5 }
def k1c6 : Code := { maxStack := 3, maxLocals := 4, code := method_7_code, exceptionTable := #[], attributes := #[] }
def k1m6 : Method := { name := "unpairedAt", desc := "([CII)Z", sig := { parameters := [(.array .char), .int, .int], returnType := some .boolean }, accessFlags := 10, code := some k1c6 }
/-- com/example/vestline/vestline/input/SurrogatesFindUnpairedPinLaw -/
def k1 : Class := { plain "com/example/vestline/vestline/input/SurrogatesFindUnpairedPinLaw" (some 0) with
  accessFlags := 49
  interfaces := #[]
  cf := some (fileOf pool1 8 #[] #[{ accessFlags := 2, nameIndex := 5, descriptorIndex := 6, attributes := #[] }, { accessFlags := 9, nameIndex := 45, descriptorIndex := 46, attributes := #[] }, { accessFlags := 10, nameIndex := 11, descriptorIndex := 12, attributes := #[] }, { accessFlags := 10, nameIndex := 15, descriptorIndex := 16, attributes := #[] }, { accessFlags := 10, nameIndex := 38, descriptorIndex := 39, attributes := #[] }, { accessFlags := 10, nameIndex := 42, descriptorIndex := 39, attributes := #[] }, { accessFlags := 10, nameIndex := 19, descriptorIndex := 20, attributes := #[] }] 49 2 #[] #[])
  fields := #[]
  methods := #[k1m0, k1m1, k1m2, k1m3, k1m4, k1m5, k1m6]
  instanceTypes := #[]
  staticTypes := #[]
  resolved := Array.replicate 52 none
  statics := none }

def pool2 : Array CpInfo := pool [(1, .class_ 2), (0, u "java/io/Serializable"), (0, .class_ 4), (0, u "java/lang/Object")] 2

/-- java/io/Serializable -/
def k2 : Class := { plain "java/io/Serializable" (some 0) with
  accessFlags := 1537
  interfaces := #[]
  cf := some (fileOf pool2 1 #[] #[] 1537 3 #[] #[])
  fields := #[]
  methods := #[]
  instanceTypes := #[]
  staticTypes := #[]
  resolved := Array.replicate 7 none
  statics := none }

def pool3 : Array CpInfo := pool [(1, .class_ 2), (0, u "java/lang/Comparable"), (0, .class_ 4), (0, u "java/lang/Object")] 7

/-- java/lang/Comparable -/
def k3 : Class := { plain "java/lang/Comparable" (some 0) with
  accessFlags := 1537
  interfaces := #[]
  cf := some (fileOf pool3 1 #[] #[] 1537 3 #[] #[])
  fields := #[]
  methods := #[]
  instanceTypes := #[]
  staticTypes := #[]
  resolved := Array.replicate 12 none
  statics := none }

def pool4 : Array CpInfo := pool [(2, .class_ 4), (1, u "java/lang/CharSequence"), (42, .class_ 48), (0, u "java/lang/CharSequence$1CodePointIterator"), (10, .class_ 60), (0, u "java/lang/CharSequence$1CharIterator"), (5, .class_ 67), (0, u "java/lang/Object")] 63

/-- java/lang/CharSequence -/
def k4 : Class := { plain "java/lang/CharSequence" (some 0) with
  accessFlags := 1537
  interfaces := #[]
  cf := some (fileOf pool4 2 #[.nestMembers #[47, 59]] #[] 1537 66 #[] #[])
  fields := #[]
  methods := #[]
  instanceTypes := #[]
  staticTypes := #[]
  resolved := Array.replicate 131 none
  statics := none }

def pool5 : Array CpInfo := pool [(1, .class_ 2), (0, u "java/lang/constant/Constable"), (0, .class_ 4), (0, u "java/lang/Object")] 6

/-- java/lang/constant/Constable -/
def k5 : Class := { plain "java/lang/constant/Constable" (some 0) with
  accessFlags := 1537
  interfaces := #[]
  cf := some (fileOf pool5 1 #[] #[] 1537 3 #[] #[])
  fields := #[]
  methods := #[]
  instanceTypes := #[]
  staticTypes := #[]
  resolved := Array.replicate 11 none
  statics := none }

def pool6 : Array CpInfo := pool [(1, .class_ 2), (0, u "java/lang/constant/ConstantDesc"), (0, .class_ 4), (0, u "java/lang/Object")] 32

/-- java/lang/constant/ConstantDesc -/
def k6 : Class := { plain "java/lang/constant/ConstantDesc" (some 0) with
  accessFlags := 1537
  interfaces := #[]
  cf := some (fileOf pool6 1 #[] #[] 1537 3 #[] #[])
  fields := #[]
  methods := #[]
  instanceTypes := #[]
  staticTypes := #[]
  resolved := Array.replicate 37 none
  statics := none }

def pool7 : Array CpInfo := pool [(1, .methodref 2 3), (0, .class_ 4), (0, .nameAndType 5 6), (0, u "java/lang/Object"), (0, u "<init>"), (0, u "()V"), (0, .string 8), (0, u ""), (0, .fieldref 10 11), (0, .class_ 12), (0, .nameAndType 13 14), (0, u "java/lang/String"), (0, u "value"), (0, u "[B"), (0, .fieldref 10 16), (0, .nameAndType 17 18), (0, u "coder"), (0, u "B"), (2, u "hash"), (0, u "I"), (2, u "hashIsZero"), (0, u "Z"), (0, .methodref 10 28), (0, .nameAndType 5 29), (0, u "([CIILjava/lang/Void;)V"), (8, .fieldref 10 39), (0, .nameAndType 40 26), (0, u "COMPACT_STRINGS"), (1, .class_ 44), (1, u "java/lang/StringUTF16"), (0, u "compress"), (1, .methodref 42 48), (0, .nameAndType 49 50), (0, u "coderFromArrayLen"), (0, u "([BI)B"), (56, .class_ 109), (1, u "java/lang/StringLatin1"), (32, u "()Z"), (34, .methodref 42 178), (0, .nameAndType 45 179), (0, u "([CII)[B"), (154, u "()I"), (0, .methodref 10 336), (0, .nameAndType 17 337), (0, u "()B"), (25, u "([BI)C"), (27, u "(II)V"), (35, u "(I)C"), (64, .methodref 10 493), (0, .nameAndType 494 142), (0, u "isLatin1"), (0, .methodref 107 496), (0, .nameAndType 497 363), (0, u "charAt"), (0, .methodref 42 496), (2, u "checkIndex"), (5, u "length"), (67, .class_ 576), (0, u "java/lang/CharSequence"), (22, u "CASE_INSENSITIVE_ORDER"), (0, u "Ljava/util/Comparator;"), (409, u "([C)V"), (42, .fieldref 1054 1055), (0, .class_ 1056), (0, .nameAndType 1057 1058), (0, u "jdk/internal/util/Preconditions"), (0, u "SIOOBE_FORMATTER"), (0, u "Ljava/util/function/BiFunction;"), (0, .methodref 1054 1060), (0, .nameAndType 501 1061), (0, u "(IILjava/util/function/BiFunction;)I"), (39, u "serialPersistentFields"), (0, u "[Ljava/io/ObjectStreamField;"), (0, .class_ 1104), (0, u "java/lang/String$CaseInsensitiveComparator"), (1, .class_ 1107), (0, u "java/io/Serializable"), (0, .class_ 1109), (0, u "java/lang/Comparable"), (0, .class_ 1111), (0, u "java/lang/constant/Constable"), (0, .class_ 1113), (0, u "java/lang/constant/ConstantDesc"), (2, u "serialVersionUID"), (0, u "J"), (3, u "REPL"), (0, u "C"), (2, u "LATIN1"), (1, u "UTF16")] 323

def k7m0 : Method := { name := "<init>", desc := "()V", sig := { parameters := [], returnType := none }, accessFlags := 1, code := none }
def k7c1 : Code := { maxStack := 5, maxLocals := 2, code := jdk_42_method_3_code, exceptionTable := #[], attributes := #[] }
def k7m1 : Method := { name := "<init>", desc := "([C)V", sig := { parameters := [(.array .char)], returnType := none }, accessFlags := 1, code := some k7c1 }
def k7c2 : Code := { maxStack := 2, maxLocals := 1, code := jdk_42_method_54_code, exceptionTable := #[], attributes := #[] }
def k7m2 : Method := { name := "length", desc := "()I", sig := { parameters := [], returnType := some .int }, accessFlags := 1, code := some k7c2 }
def k7c3 : Code := { maxStack := 2, maxLocals := 2, code := jdk_42_method_56_code, exceptionTable := #[], attributes := #[] }
def k7m3 : Method := { name := "charAt", desc := "(I)C", sig := { parameters := [.int], returnType := some .char }, accessFlags := 1, code := some k7c3 }
def k7c4 : Code := { maxStack := 4, maxLocals := 6, code := jdk_42_method_149_code, exceptionTable := #[], attributes := #[] }
def k7m4 : Method := { name := "<init>", desc := "([CIILjava/lang/Void;)V", sig := { parameters := [(.array .char), .int, .int, (.object "java/lang/Void")], returnType := none }, accessFlags := 2, code := some k7c4 }
def k7c5 : Code := { maxStack := 1, maxLocals := 1, code := jdk_42_method_152_code, exceptionTable := #[], attributes := #[] }
def k7m5 : Method := { name := "coder", desc := "()B", sig := { parameters := [], returnType := some .byte }, accessFlags := 0, code := some k7c5 }
def k7c6 : Code := { maxStack := 1, maxLocals := 1, code := jdk_42_method_154_code, exceptionTable := #[], attributes := #[] }
def k7m6 : Method := { name := "isLatin1", desc := "()Z", sig := { parameters := [], returnType := some .boolean }, accessFlags := 0, code := some k7c6 }
def k7c7 : Code := { maxStack := 3, maxLocals := 2, code := jdk_42_method_155_code, exceptionTable := #[], attributes := #[] }
def k7m7 : Method := { name := "checkIndex", desc := "(II)V", sig := { parameters := [.int, .int], returnType := none }, accessFlags := 8, code := some k7c7 }
/-- java/lang/String -/
def k7 : Class := { plain "java/lang/String" (some 0) with
  accessFlags := 49
  interfaces := #[2, 3, 4, 5, 6]
  cf := some (fileOf pool7 10 #[.nestMembers #[1103]] #[{ accessFlags := 1, nameIndex := 5, descriptorIndex := 6, attributes := #[] }, { accessFlags := 1, nameIndex := 5, descriptorIndex := 1010, attributes := #[] }, { accessFlags := 1, nameIndex := 507, descriptorIndex := 334, attributes := #[] }, { accessFlags := 1, nameIndex := 497, descriptorIndex := 427, attributes := #[] }, { accessFlags := 2, nameIndex := 5, descriptorIndex := 29, attributes := #[] }, { accessFlags := 0, nameIndex := 17, descriptorIndex := 337, attributes := #[] }, { accessFlags := 0, nameIndex := 494, descriptorIndex := 142, attributes := #[] }, { accessFlags := 8, nameIndex := 501, descriptorIndex := 391, attributes := #[] }] 49 2 #[1106, 1108, 575, 1110, 1112] #[{ accessFlags := 18, nameIndex := 13, descriptorIndex := 14, attributes := #[] }, { accessFlags := 18, nameIndex := 17, descriptorIndex := 18, attributes := #[] }, { accessFlags := 2, nameIndex := 21, descriptorIndex := 22, attributes := #[] }, { accessFlags := 2, nameIndex := 25, descriptorIndex := 26, attributes := #[] }, { accessFlags := 26, nameIndex := 1116, descriptorIndex := 1117, attributes := #[] }, { accessFlags := 24, nameIndex := 40, descriptorIndex := 26, attributes := #[] }, { accessFlags := 26, nameIndex := 1101, descriptorIndex := 1102, attributes := #[] }, { accessFlags := 26, nameIndex := 1121, descriptorIndex := 1122, attributes := #[] }, { accessFlags := 25, nameIndex := 599, descriptorIndex := 600, attributes := #[] }, { accessFlags := 24, nameIndex := 1125, descriptorIndex := 18, attributes := #[] }, { accessFlags := 24, nameIndex := 1127, descriptorIndex := 18, attributes := #[] }])
  fields := #[{ name := "value", type := (.array .byte), accessFlags := 18, slot := 0, constantValue := 0 }, { name := "coder", type := .byte, accessFlags := 18, slot := 1, constantValue := 0 }, { name := "hash", type := .int, accessFlags := 2, slot := 2, constantValue := 0 }, { name := "hashIsZero", type := .boolean, accessFlags := 2, slot := 3, constantValue := 0 }, { name := "serialVersionUID", type := .long, accessFlags := 26, slot := 0, constantValue := 0 }, { name := "COMPACT_STRINGS", type := .boolean, accessFlags := 24, slot := 1, constantValue := 0 }, { name := "serialPersistentFields", type := (.array (.object "java/io/ObjectStreamField")), accessFlags := 26, slot := 2, constantValue := 0 }, { name := "REPL", type := .char, accessFlags := 26, slot := 3, constantValue := 0 }, { name := "CASE_INSENSITIVE_ORDER", type := (.object "java/util/Comparator"), accessFlags := 25, slot := 4, constantValue := 0 }, { name := "LATIN1", type := .byte, accessFlags := 24, slot := 5, constantValue := 0 }, { name := "UTF16", type := .byte, accessFlags := 24, slot := 6, constantValue := 0 }]
  methods := #[k7m0, k7m1, k7m2, k7m3, k7m4, k7m5, k7m6, k7m7]
  instanceTypes := #[(.array .byte), .byte, .int, .boolean]
  staticTypes := #[.long, .boolean, (.array (.object "java/io/ObjectStreamField")), .char, (.object "java/util/Comparator"), .byte, .byte]
  resolved := Array.replicate 1451 none
  statics := some 0 }

def pool8 : Array CpInfo := pool [(2, .class_ 4), (1, u "java/lang/Object"), (0, u "<init>"), (0, u "()V"), (0, .methodref 8 9), (0, .class_ 10), (0, .nameAndType 11 12), (0, u "java/lang/String"), (0, u "length"), (0, u "()I"), (0, .methodref 8 14), (0, .nameAndType 15 16), (0, u "charAt"), (0, u "(I)C"), (0, .methodref 18 19), (0, .class_ 20), (0, .nameAndType 21 22), (0, u "java/lang/Character"), (0, u "isHighSurrogate"), (0, u "(C)Z"), (0, .methodref 18 24), (0, .nameAndType 25 22), (0, u "isLowSurrogate"), (0, .methodref 18 27), (0, .nameAndType 28 22), (0, u "isSurrogate"), (1, .class_ 32), (1, u "com/example/vestline/vestline/input/Surrogates"), (0, u "findUnpaired"), (0, u "(Ljava/lang/String;)I")] 52

def k8m0 : Method := { name := "<init>", desc := "()V", sig := { parameters := [], returnType := none }, accessFlags := 2, code := none }
def k8c1 : Code := { maxStack := 3, maxLocals := 3, code := prog_29_method_2_code, exceptionTable := #[], attributes := #[] }
def k8m1 : Method := { name := "findUnpaired", desc := "(Ljava/lang/String;)I", sig := { parameters := [(.object "java/lang/String")], returnType := some .int }, accessFlags := 8, code := some k8c1 }
/-- com/example/vestline/vestline/input/Surrogates -/
def k8 : Class := { plain "com/example/vestline/vestline/input/Surrogates" (some 0) with
  accessFlags := 48
  interfaces := #[]
  cf := some (fileOf pool8 30 #[] #[{ accessFlags := 2, nameIndex := 5, descriptorIndex := 6, attributes := #[] }, { accessFlags := 8, nameIndex := 33, descriptorIndex := 34, attributes := #[] }] 48 2 #[] #[])
  fields := #[]
  methods := #[k8m0, k8m1]
  instanceTypes := #[]
  staticTypes := #[]
  resolved := Array.replicate 87 none
  statics := none }

def pool9 : Array CpInfo := pool [(3, .class_ 4), (0, u "java/lang/String"), (1, .class_ 8), (1, u "java/lang/Object"), (0, u "<init>"), (0, u "()V"), (0, .methodref 12 13), (0, .class_ 14), (0, .nameAndType 15 16), (0, u "java/lang/StringUTF16"), (0, u "newBytesLength"), (0, u "(I)I"), (3, .integer 1073741823), (23, .fieldref 12 45), (0, .nameAndType 46 47), (0, u "$assertionsDisabled"), (0, u "Z"), (0, .methodref 12 49), (0, .nameAndType 50 51), (0, u "length"), (0, u "([B)I"), (7, .fieldref 12 60), (0, .nameAndType 61 62), (0, u "HI_BYTE_SHIFT"), (0, u "I"), (0, .fieldref 12 64), (0, .nameAndType 65 62), (0, u "LO_BYTE_SHIFT"), (1, .methodref 12 68), (0, .nameAndType 69 70), (0, u "checkIndex"), (0, u "(I[B)V"), (0, .methodref 12 72), (0, .nameAndType 73 74), (0, u "getChar"), (0, u "([BI)C"), (32, .methodref 12 108), (0, .nameAndType 109 110), (0, u "newBytesFor"), (0, u "(I)[B"), (0, .methodref 12 112), (0, .nameAndType 113 114), (0, u "putChar"), (0, u "([BII)V"), (0, .methodref 12 116), (0, .nameAndType 117 118), (0, u "compress"), (0, u "([CI[BII)I"), (0, .methodref 12 120), (0, .nameAndType 121 122), (0, u "toBytes"), (0, u "([CII)[B"), (138, u "coderFromArrayLen"), (0, u "([BI)B"), (106, .class_ 371), (1, u "java/lang/StringUTF16$LinesSpliterator"), (20, u "charAt"), (21, .methodref 3 415), (0, .nameAndType 69 416), (0, u "(II)V"), (13, u "MAX_LENGTH"), (196, .class_ 628), (0, u "java/lang/StringUTF16$CodePointsSpliterator"), (0, .class_ 630), (0, u "java/lang/StringUTF16$CharsSpliterator")] 4

def k9m0 : Method := { name := "<init>", desc := "()V", sig := { parameters := [], returnType := none }, accessFlags := 0, code := none }
def k9c1 : Code := { maxStack := 1, maxLocals := 1, code := jdk_52_method_2_code, exceptionTable := #[], attributes := #[] }
def k9m1 : Method := { name := "newBytesFor", desc := "(I)[B", sig := { parameters := [.int], returnType := some (.array .byte) }, accessFlags := 9, code := some k9c1 }
def k9c2 : Code := { maxStack := 4, maxLocals := 1, code := jdk_52_method_3_code, exceptionTable := #[], attributes := #[] }
def k9m2 : Method := { name := "newBytesLength", desc := "(I)I", sig := { parameters := [.int], returnType := some .int }, accessFlags := 9, code := some k9c2 }
def k9c3 : Code := { maxStack := 4, maxLocals := 3, code := jdk_52_method_4_code, exceptionTable := #[], attributes := #[] }
def k9m3 : Method := { name := "putChar", desc := "([BII)V", sig := { parameters := [(.array .byte), .int, .int], returnType := none }, accessFlags := 8, code := some k9c3 }
def k9c4 : Code := { maxStack := 3, maxLocals := 2, code := jdk_52_method_5_code, exceptionTable := #[], attributes := #[] }
def k9m4 : Method := { name := "getChar", desc := "([BI)C", sig := { parameters := [(.array .byte), .int], returnType := some .char }, accessFlags := 8, code := some k9c4 }
def k9c5 : Code := { maxStack := 2, maxLocals := 1, code := jdk_52_method_6_code, exceptionTable := #[], attributes := #[] }
def k9m5 : Method := { name := "length", desc := "([B)I", sig := { parameters := [(.array .byte)], returnType := some .int }, accessFlags := 9, code := some k9c5 }
def k9c6 : Code := { maxStack := 4, maxLocals := 5, code := jdk_52_method_14_code, exceptionTable := #[], attributes := #[] }
def k9m6 : Method := { name := "toBytes", desc := "([CII)[B", sig := { parameters := [(.array .char), .int, .int], returnType := some (.array .byte) }, accessFlags := 9, code := some k9c6 }
def k9c7 : Code := { maxStack := 2, maxLocals := 2, code := jdk_52_method_15_code, exceptionTable := #[], attributes := #[] }
def k9m7 : Method := { name := "coderFromArrayLen", desc := "([BI)B", sig := { parameters := [(.array .byte), .int], returnType := some .byte }, accessFlags := 8, code := some k9c7 }
def k9c8 : Code := { maxStack := 5, maxLocals := 6, code := jdk_52_method_16_code, exceptionTable := #[], attributes := #[] }
def k9m8 : Method := { name := "compress", desc := "([CII)[B", sig := { parameters := [(.array .char), .int, .int], returnType := some (.array .byte) }, accessFlags := 9, code := some k9c8 }
def k9c9 : Code := { maxStack := 3, maxLocals := 7, code := jdk_52_method_21_code, exceptionTable := #[], attributes := #[] }
def k9m9 : Method := { name := "compress", desc := "([CI[BII)I", sig := { parameters := [(.array .char), .int, (.array .byte), .int, .int], returnType := some .int }, accessFlags := 9, code := some k9c9 }
def k9c10 : Code := { maxStack := 2, maxLocals := 2, code := jdk_52_method_83_code, exceptionTable := #[], attributes := #[] }
def k9m10 : Method := { name := "charAt", desc := "([BI)C", sig := { parameters := [(.array .byte), .int], returnType := some .char }, accessFlags := 9, code := some k9c10 }
def k9c11 : Code := { maxStack := 2, maxLocals := 2, code := jdk_52_method_91_code, exceptionTable := #[], attributes := #[] }
def k9m11 : Method := { name := "checkIndex", desc := "(I[B)V", sig := { parameters := [.int, (.array .byte)], returnType := none }, accessFlags := 9, code := some k9c11 }
/-- java/lang/StringUTF16 -/
def k9 : Class := { plain "java/lang/StringUTF16" (some 0) with
  accessFlags := 48
  interfaces := #[]
  cf := some (fileOf pool9 12 #[.nestMembers #[627, 629, 369]] #[{ accessFlags := 0, nameIndex := 9, descriptorIndex := 10, attributes := #[] }, { accessFlags := 9, nameIndex := 109, descriptorIndex := 110, attributes := #[] }, { accessFlags := 9, nameIndex := 15, descriptorIndex := 16, attributes := #[] }, { accessFlags := 8, nameIndex := 113, descriptorIndex := 114, attributes := #[] }, { accessFlags := 8, nameIndex := 73, descriptorIndex := 74, attributes := #[] }, { accessFlags := 9, nameIndex := 50, descriptorIndex := 51, attributes := #[] }, { accessFlags := 9, nameIndex := 121, descriptorIndex := 122, attributes := #[] }, { accessFlags := 8, nameIndex := 261, descriptorIndex := 262, attributes := #[] }, { accessFlags := 9, nameIndex := 117, descriptorIndex := 122, attributes := #[] }, { accessFlags := 9, nameIndex := 117, descriptorIndex := 118, attributes := #[] }, { accessFlags := 9, nameIndex := 392, descriptorIndex := 74, attributes := #[] }, { accessFlags := 9, nameIndex := 69, descriptorIndex := 70, attributes := #[] }] 48 6 #[] #[{ accessFlags := 26, nameIndex := 61, descriptorIndex := 62, attributes := #[] }, { accessFlags := 26, nameIndex := 65, descriptorIndex := 62, attributes := #[] }, { accessFlags := 24, nameIndex := 430, descriptorIndex := 62, attributes := #[] }, { accessFlags := 4120, nameIndex := 46, descriptorIndex := 47, attributes := #[] }])
  fields := #[{ name := "HI_BYTE_SHIFT", type := .int, accessFlags := 26, slot := 0, constantValue := 0 }, { name := "LO_BYTE_SHIFT", type := .int, accessFlags := 26, slot := 1, constantValue := 0 }, { name := "MAX_LENGTH", type := .int, accessFlags := 24, slot := 2, constantValue := 0 }, { name := "$assertionsDisabled", type := .boolean, accessFlags := 4120, slot := 3, constantValue := 0 }]
  methods := #[k9m0, k9m1, k9m2, k9m3, k9m4, k9m5, k9m6, k9m7, k9m8, k9m9, k9m10, k9m11]
  instanceTypes := #[]
  staticTypes := #[.int, .int, .int, .boolean]
  resolved := Array.replicate 635 none
  statics := some 1 }

def pool10 : Array CpInfo := pool [(1, .class_ 2), (0, u "java/lang/String"), (1, .class_ 6), (1, u "java/lang/Object"), (0, u "<init>"), (0, u "()V"), (0, .methodref 1 10), (0, .nameAndType 11 12), (0, u "checkIndex"), (0, u "(II)V"), (1, .class_ 16), (1, u "java/lang/StringLatin1"), (36, u "([BI)C"), (67, u "$assertionsDisabled"), (0, u "Z"), (98, .class_ 223), (1, u "java/lang/StringLatin1$LinesSpliterator"), (28, u "charAt"), (137, .class_ 391), (0, u "java/lang/StringLatin1$CharsSpliterator")] 3

def k10m0 : Method := { name := "<init>", desc := "()V", sig := { parameters := [], returnType := none }, accessFlags := 0, code := none }
def k10c1 : Code := { maxStack := 2, maxLocals := 2, code := jdk_43_method_2_code, exceptionTable := #[], attributes := #[] }
def k10m1 : Method := { name := "charAt", desc := "([BI)C", sig := { parameters := [(.array .byte), .int], returnType := some .char }, accessFlags := 9, code := some k10c1 }
/-- java/lang/StringLatin1 -/
def k10 : Class := { plain "java/lang/StringLatin1" (some 0) with
  accessFlags := 48
  interfaces := #[]
  cf := some (fileOf pool10 14 #[.nestMembers #[390, 221]] #[{ accessFlags := 0, nameIndex := 7, descriptorIndex := 8, attributes := #[] }, { accessFlags := 9, nameIndex := 252, descriptorIndex := 53, attributes := #[] }] 48 4 #[] #[{ accessFlags := 4120, nameIndex := 121, descriptorIndex := 122, attributes := #[] }])
  fields := #[{ name := "$assertionsDisabled", type := .boolean, accessFlags := 4120, slot := 0, constantValue := 0 }]
  methods := #[k10m0, k10m1]
  instanceTypes := #[]
  staticTypes := #[.boolean]
  resolved := Array.replicate 395 none
  statics := none }

def pool11 : Array CpInfo := pool [(2, .class_ 4), (1, u "java/lang/Object"), (0, u "<init>"), (0, u "()V"), (17, .class_ 26), (1, u "jdk/internal/util/Preconditions"), (6, u "checkIndex"), (21, .class_ 56), (0, u "jdk/internal/util/Preconditions$4"), (57, .class_ 115), (0, u "jdk/internal/util/Preconditions$1"), (7, u "SIOOBE_FORMATTER"), (0, u "Ljava/util/function/BiFunction;"), (0, .class_ 126), (0, u "jdk/internal/util/Preconditions$2"), (3, u "AIOOBE_FORMATTER"), (0, .class_ 132), (0, u "jdk/internal/util/Preconditions$3"), (3, u "IOOBE_FORMATTER"), (41, u "(IILjava/util/function/BiFunction;)I")] 15

def k11m0 : Method := { name := "<init>", desc := "()V", sig := { parameters := [], returnType := none }, accessFlags := 1, code := none }
def k11c1 : Code := { maxStack := 3, maxLocals := 3, code := jdk_41_method_11_code, exceptionTable := #[], attributes := #[] }
def k11m1 : Method := { name := "checkIndex", desc := "(IILjava/util/function/BiFunction;)I", sig := { parameters := [.int, .int, (.object "java/util/function/BiFunction")], returnType := some .int }, accessFlags := 9, code := some k11c1 }
/-- jdk/internal/util/Preconditions -/
def k11 : Class := { plain "jdk/internal/util/Preconditions" (some 0) with
  accessFlags := 33
  interfaces := #[]
  cf := some (fileOf pool11 24 #[.nestMembers #[55, 131, 125, 114]] #[{ accessFlags := 1, nameIndex := 5, descriptorIndex := 6, attributes := #[] }, { accessFlags := 9, nameIndex := 33, descriptorIndex := 178, attributes := #[] }] 33 2 #[] #[{ accessFlags := 25, nameIndex := 123, descriptorIndex := 124, attributes := #[] }, { accessFlags := 25, nameIndex := 130, descriptorIndex := 124, attributes := #[] }, { accessFlags := 25, nameIndex := 136, descriptorIndex := 124, attributes := #[] }])
  fields := #[{ name := "SIOOBE_FORMATTER", type := (.object "java/util/function/BiFunction"), accessFlags := 25, slot := 0, constantValue := 0 }, { name := "AIOOBE_FORMATTER", type := (.object "java/util/function/BiFunction"), accessFlags := 25, slot := 1, constantValue := 0 }, { name := "IOOBE_FORMATTER", type := (.object "java/util/function/BiFunction"), accessFlags := 25, slot := 2, constantValue := 0 }]
  methods := #[k11m0, k11m1]
  instanceTypes := #[]
  staticTypes := #[(.object "java/util/function/BiFunction"), (.object "java/util/function/BiFunction"), (.object "java/util/function/BiFunction")]
  resolved := Array.replicate 194 none
  statics := some 2 }

def pool12 : Array CpInfo := pool [(1, .class_ 2), (0, u "java/lang/Character"), (18, u "value"), (0, u "C"), (19, .class_ 44), (1, u "java/lang/Object"), (3, .class_ 50), (1, u "java/lang/Character$CharacterCache"), (24, .integer 55296), (0, .integer 56320), (0, .integer 57344), (2, u "isHighSurrogate"), (0, u "(C)Z"), (2, u "isLowSurrogate"), (199, u "$assertionsDisabled"), (0, u "Z"), (21, .class_ 309), (1, u "java/lang/Character$UnicodeBlock"), (73, u "TYPE"), (0, u "Ljava/lang/Class;"), (0, .class_ 386), (0, u "java/io/Serializable"), (0, .class_ 388), (0, u "java/lang/Comparable"), (0, .class_ 390), (0, u "java/lang/constant/Constable"), (0, u "MIN_RADIX"), (0, u "I"), (2, u "MAX_RADIX"), (1, u "MIN_VALUE"), (1, u "MAX_VALUE"), (3, u "UNASSIGNED"), (0, u "B"), (0, u "UPPERCASE_LETTER"), (1, u "LOWERCASE_LETTER"), (0, u "TITLECASE_LETTER"), (1, u "MODIFIER_LETTER"), (1, u "OTHER_LETTER"), (1, u "NON_SPACING_MARK"), (1, u "ENCLOSING_MARK"), (1, u "COMBINING_SPACING_MARK"), (1, u "DECIMAL_DIGIT_NUMBER"), (1, u "LETTER_NUMBER"), (1, u "OTHER_NUMBER"), (1, u "SPACE_SEPARATOR"), (1, u "LINE_SEPARATOR"), (1, u "PARAGRAPH_SEPARATOR"), (1, u "CONTROL"), (1, u "FORMAT"), (1, u "PRIVATE_USE"), (1, u "SURROGATE"), (1, u "DASH_PUNCTUATION"), (1, u "START_PUNCTUATION"), (1, u "END_PUNCTUATION"), (1, u "CONNECTOR_PUNCTUATION"), (1, u "OTHER_PUNCTUATION"), (1, u "MATH_SYMBOL"), (1, u "CURRENCY_SYMBOL"), (1, u "MODIFIER_SYMBOL"), (1, u "OTHER_SYMBOL"), (1, u "INITIAL_QUOTE_PUNCTUATION"), (1, u "FINAL_QUOTE_PUNCTUATION"), (1, u "ERROR"), (1, u "DIRECTIONALITY_UNDEFINED"), (0, u "DIRECTIONALITY_LEFT_TO_RIGHT"), (0, u "DIRECTIONALITY_RIGHT_TO_LEFT"), (0, u "DIRECTIONALITY_RIGHT_TO_LEFT_ARABIC"), (0, u "DIRECTIONALITY_EUROPEAN_NUMBER"), (0, u "DIRECTIONALITY_EUROPEAN_NUMBER_SEPARATOR"), (0, u "DIRECTIONALITY_EUROPEAN_NUMBER_TERMINATOR"), (0, u "DIRECTIONALITY_ARABIC_NUMBER"), (0, u "DIRECTIONALITY_COMMON_NUMBER_SEPARATOR"), (0, u "DIRECTIONALITY_NONSPACING_MARK"), (0, u "DIRECTIONALITY_BOUNDARY_NEUTRAL"), (0, u "DIRECTIONALITY_PARAGRAPH_SEPARATOR"), (0, u "DIRECTIONALITY_SEGMENT_SEPARATOR"), (0, u "DIRECTIONALITY_WHITESPACE"), (0, u "DIRECTIONALITY_OTHER_NEUTRALS"), (0, u "DIRECTIONALITY_LEFT_TO_RIGHT_EMBEDDING"), (0, u "DIRECTIONALITY_LEFT_TO_RIGHT_OVERRIDE"), (0, u "DIRECTIONALITY_RIGHT_TO_LEFT_EMBEDDING"), (0, u "DIRECTIONALITY_RIGHT_TO_LEFT_OVERRIDE"), (1, u "DIRECTIONALITY_POP_DIRECTIONAL_FORMAT"), (0, u "DIRECTIONALITY_LEFT_TO_RIGHT_ISOLATE"), (0, u "DIRECTIONALITY_RIGHT_TO_LEFT_ISOLATE"), (0, u "DIRECTIONALITY_FIRST_STRONG_ISOLATE"), (0, u "DIRECTIONALITY_POP_DIRECTIONAL_ISOLATE"), (0, u "MIN_HIGH_SURROGATE"), (0, u "MAX_HIGH_SURROGATE"), (1, u "MIN_LOW_SURROGATE"), (0, u "MAX_LOW_SURROGATE"), (1, u "MIN_SURROGATE"), (0, u "MAX_SURROGATE"), (0, u "MIN_SUPPLEMENTARY_CODE_POINT"), (0, u "MIN_CODE_POINT"), (0, u "MAX_CODE_POINT"), (1, u "serialVersionUID"), (0, u "J"), (2, u "SIZE"), (0, u "BYTES"), (24, u "isSurrogate"), (63, .class_ 596), (0, u "java/lang/Character$UnicodeScript"), (0, .class_ 598), (0, u "java/lang/Character$Subset")] 5

def k12c0 : Code := { maxStack := 2, maxLocals := 1, code := jdk_89_method_14_code, exceptionTable := #[], attributes := #[] }
def k12m0 : Method := { name := "isHighSurrogate", desc := "(C)Z", sig := { parameters := [.char], returnType := some .boolean }, accessFlags := 9, code := some k12c0 }
def k12c1 : Code := { maxStack := 2, maxLocals := 1, code := jdk_89_method_15_code, exceptionTable := #[], attributes := #[] }
def k12m1 : Method := { name := "isLowSurrogate", desc := "(C)Z", sig := { parameters := [.char], returnType := some .boolean }, accessFlags := 9, code := some k12c1 }
def k12c2 : Code := { maxStack := 2, maxLocals := 1, code := jdk_89_method_16_code, exceptionTable := #[], attributes := #[] }
def k12m2 : Method := { name := "isSurrogate", desc := "(C)Z", sig := { parameters := [.char], returnType := some .boolean }, accessFlags := 9, code := some k12c2 }
/-- java/lang/Character -/
def k12 : Class := { plain "java/lang/Character" (some 0) with
  accessFlags := 49
  interfaces := #[2, 3, 5]
  cf := some (fileOf pool12 1 #[.nestMembers #[48, 595, 307, 597]] #[{ accessFlags := 9, nameIndex := 80, descriptorIndex := 81, attributes := #[] }, { accessFlags := 9, nameIndex := 84, descriptorIndex := 81, attributes := #[] }, { accessFlags := 9, nameIndex := 531, descriptorIndex := 81, attributes := #[] }] 49 42 #[385, 387, 389] #[{ accessFlags := 25, nameIndex := 391, descriptorIndex := 392, attributes := #[] }, { accessFlags := 25, nameIndex := 395, descriptorIndex := 392, attributes := #[] }, { accessFlags := 25, nameIndex := 397, descriptorIndex := 22, attributes := #[] }, { accessFlags := 25, nameIndex := 399, descriptorIndex := 22, attributes := #[] }, { accessFlags := 25, nameIndex := 383, descriptorIndex := 384, attributes := #[] }, { accessFlags := 25, nameIndex := 403, descriptorIndex := 404, attributes := #[] }, { accessFlags := 25, nameIndex := 405, descriptorIndex := 404, attributes := #[] }, { accessFlags := 25, nameIndex := 407, descriptorIndex := 404, attributes := #[] }, { accessFlags := 25, nameIndex := 408, descriptorIndex := 404, attributes := #[] }, { accessFlags := 25, nameIndex := 410, descriptorIndex := 404, attributes := #[] }, { accessFlags := 25, nameIndex := 412, descriptorIndex := 404, attributes := #[] }, { accessFlags := 25, nameIndex := 414, descriptorIndex := 404, attributes := #[] }, { accessFlags := 25, nameIndex := 416, descriptorIndex := 404, attributes := #[] }, { accessFlags := 25, nameIndex := 418, descriptorIndex := 404, attributes := #[] }, { accessFlags := 25, nameIndex := 420, descriptorIndex := 404, attributes := #[] }, { accessFlags := 25, nameIndex := 422, descriptorIndex := 404, attributes := #[] }, { accessFlags := 25, nameIndex := 424, descriptorIndex := 404, attributes := #[] }, { accessFlags := 25, nameIndex := 426, descriptorIndex := 404, attributes := #[] }, { accessFlags := 25, nameIndex := 428, descriptorIndex := 404, attributes := #[] }, { accessFlags := 25, nameIndex := 430, descriptorIndex := 404, attributes := #[] }, { accessFlags := 25, nameIndex := 432, descriptorIndex := 404, attributes := #[] }, { accessFlags := 25, nameIndex := 434, descriptorIndex := 404, attributes := #[] }, { accessFlags := 25, nameIndex := 436, descriptorIndex := 404, attributes := #[] }, { accessFlags := 25, nameIndex := 438, descriptorIndex := 404, attributes := #[] }, { accessFlags := 25, nameIndex := 440, descriptorIndex := 404, attributes := #[] }, { accessFlags := 25, nameIndex := 442, descriptorIndex := 404, attributes := #[] }, { accessFlags := 25, nameIndex := 444, descriptorIndex := 404, attributes := #[] }, { accessFlags := 25, nameIndex := 446, descriptorIndex := 404, attributes := #[] }, { accessFlags := 25, nameIndex := 448, descriptorIndex := 404, attributes := #[] }, { accessFlags := 25, nameIndex := 450, descriptorIndex := 404, attributes := #[] }, { accessFlags := 25, nameIndex := 452, descriptorIndex := 404, attributes := #[] }, { accessFlags := 25, nameIndex := 454, descriptorIndex := 404, attributes := #[] }, { accessFlags := 25, nameIndex := 456, descriptorIndex := 404, attributes := #[] }, { accessFlags := 25, nameIndex := 458, descriptorIndex := 404, attributes := #[] }, { accessFlags := 25, nameIndex := 460, descriptorIndex := 404, attributes := #[] }, { accessFlags := 24, nameIndex := 462, descriptorIndex := 392, attributes := #[] }, { accessFlags := 25, nameIndex := 464, descriptorIndex := 404, attributes := #[] }, { accessFlags := 25, nameIndex := 465, descriptorIndex := 404, attributes := #[] }, { accessFlags := 25, nameIndex := 466, descriptorIndex := 404, attributes := #[] }, { accessFlags := 25, nameIndex := 467, descriptorIndex := 404, attributes := #[] }, { accessFlags := 25, nameIndex := 468, descriptorIndex := 404, attributes := #[] }, { accessFlags := 25, nameIndex := 469, descriptorIndex := 404, attributes := #[] }, { accessFlags := 25, nameIndex := 470, descriptorIndex := 404, attributes := #[] }, { accessFlags := 25, nameIndex := 471, descriptorIndex := 404, attributes := #[] }, { accessFlags := 25, nameIndex := 472, descriptorIndex := 404, attributes := #[] }, { accessFlags := 25, nameIndex := 473, descriptorIndex := 404, attributes := #[] }, { accessFlags := 25, nameIndex := 474, descriptorIndex := 404, attributes := #[] }, { accessFlags := 25, nameIndex := 475, descriptorIndex := 404, attributes := #[] }, { accessFlags := 25, nameIndex := 476, descriptorIndex := 404, attributes := #[] }, { accessFlags := 25, nameIndex := 477, descriptorIndex := 404, attributes := #[] }, { accessFlags := 25, nameIndex := 478, descriptorIndex := 404, attributes := #[] }, { accessFlags := 25, nameIndex := 479, descriptorIndex := 404, attributes := #[] }, { accessFlags := 25, nameIndex := 480, descriptorIndex := 404, attributes := #[] }, { accessFlags := 25, nameIndex := 481, descriptorIndex := 404, attributes := #[] }, { accessFlags := 25, nameIndex := 482, descriptorIndex := 404, attributes := #[] }, { accessFlags := 25, nameIndex := 484, descriptorIndex := 404, attributes := #[] }, { accessFlags := 25, nameIndex := 485, descriptorIndex := 404, attributes := #[] }, { accessFlags := 25, nameIndex := 486, descriptorIndex := 404, attributes := #[] }, { accessFlags := 25, nameIndex := 487, descriptorIndex := 404, attributes := #[] }, { accessFlags := 25, nameIndex := 488, descriptorIndex := 404, attributes := #[] }, { accessFlags := 25, nameIndex := 489, descriptorIndex := 22, attributes := #[] }, { accessFlags := 25, nameIndex := 490, descriptorIndex := 22, attributes := #[] }, { accessFlags := 25, nameIndex := 492, descriptorIndex := 22, attributes := #[] }, { accessFlags := 25, nameIndex := 493, descriptorIndex := 22, attributes := #[] }, { accessFlags := 25, nameIndex := 495, descriptorIndex := 22, attributes := #[] }, { accessFlags := 25, nameIndex := 496, descriptorIndex := 22, attributes := #[] }, { accessFlags := 25, nameIndex := 497, descriptorIndex := 392, attributes := #[] }, { accessFlags := 25, nameIndex := 498, descriptorIndex := 392, attributes := #[] }, { accessFlags := 25, nameIndex := 499, descriptorIndex := 392, attributes := #[] }, { accessFlags := 18, nameIndex := 21, descriptorIndex := 22, attributes := #[] }, { accessFlags := 26, nameIndex := 501, descriptorIndex := 502, attributes := #[] }, { accessFlags := 25, nameIndex := 505, descriptorIndex := 392, attributes := #[] }, { accessFlags := 25, nameIndex := 506, descriptorIndex := 392, attributes := #[] }, { accessFlags := 4120, nameIndex := 284, descriptorIndex := 285, attributes := #[] }])
  fields := #[{ name := "MIN_RADIX", type := .int, accessFlags := 25, slot := 0, constantValue := 0 }, { name := "MAX_RADIX", type := .int, accessFlags := 25, slot := 1, constantValue := 0 }, { name := "MIN_VALUE", type := .char, accessFlags := 25, slot := 2, constantValue := 0 }, { name := "MAX_VALUE", type := .char, accessFlags := 25, slot := 3, constantValue := 0 }, { name := "TYPE", type := (.object "java/lang/Class"), accessFlags := 25, slot := 4, constantValue := 0 }, { name := "UNASSIGNED", type := .byte, accessFlags := 25, slot := 5, constantValue := 0 }, { name := "UPPERCASE_LETTER", type := .byte, accessFlags := 25, slot := 6, constantValue := 0 }, { name := "LOWERCASE_LETTER", type := .byte, accessFlags := 25, slot := 7, constantValue := 0 }, { name := "TITLECASE_LETTER", type := .byte, accessFlags := 25, slot := 8, constantValue := 0 }, { name := "MODIFIER_LETTER", type := .byte, accessFlags := 25, slot := 9, constantValue := 0 }, { name := "OTHER_LETTER", type := .byte, accessFlags := 25, slot := 10, constantValue := 0 }, { name := "NON_SPACING_MARK", type := .byte, accessFlags := 25, slot := 11, constantValue := 0 }, { name := "ENCLOSING_MARK", type := .byte, accessFlags := 25, slot := 12, constantValue := 0 }, { name := "COMBINING_SPACING_MARK", type := .byte, accessFlags := 25, slot := 13, constantValue := 0 }, { name := "DECIMAL_DIGIT_NUMBER", type := .byte, accessFlags := 25, slot := 14, constantValue := 0 }, { name := "LETTER_NUMBER", type := .byte, accessFlags := 25, slot := 15, constantValue := 0 }, { name := "OTHER_NUMBER", type := .byte, accessFlags := 25, slot := 16, constantValue := 0 }, { name := "SPACE_SEPARATOR", type := .byte, accessFlags := 25, slot := 17, constantValue := 0 }, { name := "LINE_SEPARATOR", type := .byte, accessFlags := 25, slot := 18, constantValue := 0 }, { name := "PARAGRAPH_SEPARATOR", type := .byte, accessFlags := 25, slot := 19, constantValue := 0 }, { name := "CONTROL", type := .byte, accessFlags := 25, slot := 20, constantValue := 0 }, { name := "FORMAT", type := .byte, accessFlags := 25, slot := 21, constantValue := 0 }, { name := "PRIVATE_USE", type := .byte, accessFlags := 25, slot := 22, constantValue := 0 }, { name := "SURROGATE", type := .byte, accessFlags := 25, slot := 23, constantValue := 0 }, { name := "DASH_PUNCTUATION", type := .byte, accessFlags := 25, slot := 24, constantValue := 0 }, { name := "START_PUNCTUATION", type := .byte, accessFlags := 25, slot := 25, constantValue := 0 }, { name := "END_PUNCTUATION", type := .byte, accessFlags := 25, slot := 26, constantValue := 0 }, { name := "CONNECTOR_PUNCTUATION", type := .byte, accessFlags := 25, slot := 27, constantValue := 0 }, { name := "OTHER_PUNCTUATION", type := .byte, accessFlags := 25, slot := 28, constantValue := 0 }, { name := "MATH_SYMBOL", type := .byte, accessFlags := 25, slot := 29, constantValue := 0 }, { name := "CURRENCY_SYMBOL", type := .byte, accessFlags := 25, slot := 30, constantValue := 0 }, { name := "MODIFIER_SYMBOL", type := .byte, accessFlags := 25, slot := 31, constantValue := 0 }, { name := "OTHER_SYMBOL", type := .byte, accessFlags := 25, slot := 32, constantValue := 0 }, { name := "INITIAL_QUOTE_PUNCTUATION", type := .byte, accessFlags := 25, slot := 33, constantValue := 0 }, { name := "FINAL_QUOTE_PUNCTUATION", type := .byte, accessFlags := 25, slot := 34, constantValue := 0 }, { name := "ERROR", type := .int, accessFlags := 24, slot := 35, constantValue := 0 }, { name := "DIRECTIONALITY_UNDEFINED", type := .byte, accessFlags := 25, slot := 36, constantValue := 0 }, { name := "DIRECTIONALITY_LEFT_TO_RIGHT", type := .byte, accessFlags := 25, slot := 37, constantValue := 0 }, { name := "DIRECTIONALITY_RIGHT_TO_LEFT", type := .byte, accessFlags := 25, slot := 38, constantValue := 0 }, { name := "DIRECTIONALITY_RIGHT_TO_LEFT_ARABIC", type := .byte, accessFlags := 25, slot := 39, constantValue := 0 }, { name := "DIRECTIONALITY_EUROPEAN_NUMBER", type := .byte, accessFlags := 25, slot := 40, constantValue := 0 }, { name := "DIRECTIONALITY_EUROPEAN_NUMBER_SEPARATOR", type := .byte, accessFlags := 25, slot := 41, constantValue := 0 }, { name := "DIRECTIONALITY_EUROPEAN_NUMBER_TERMINATOR", type := .byte, accessFlags := 25, slot := 42, constantValue := 0 }, { name := "DIRECTIONALITY_ARABIC_NUMBER", type := .byte, accessFlags := 25, slot := 43, constantValue := 0 }, { name := "DIRECTIONALITY_COMMON_NUMBER_SEPARATOR", type := .byte, accessFlags := 25, slot := 44, constantValue := 0 }, { name := "DIRECTIONALITY_NONSPACING_MARK", type := .byte, accessFlags := 25, slot := 45, constantValue := 0 }, { name := "DIRECTIONALITY_BOUNDARY_NEUTRAL", type := .byte, accessFlags := 25, slot := 46, constantValue := 0 }, { name := "DIRECTIONALITY_PARAGRAPH_SEPARATOR", type := .byte, accessFlags := 25, slot := 47, constantValue := 0 }, { name := "DIRECTIONALITY_SEGMENT_SEPARATOR", type := .byte, accessFlags := 25, slot := 48, constantValue := 0 }, { name := "DIRECTIONALITY_WHITESPACE", type := .byte, accessFlags := 25, slot := 49, constantValue := 0 }, { name := "DIRECTIONALITY_OTHER_NEUTRALS", type := .byte, accessFlags := 25, slot := 50, constantValue := 0 }, { name := "DIRECTIONALITY_LEFT_TO_RIGHT_EMBEDDING", type := .byte, accessFlags := 25, slot := 51, constantValue := 0 }, { name := "DIRECTIONALITY_LEFT_TO_RIGHT_OVERRIDE", type := .byte, accessFlags := 25, slot := 52, constantValue := 0 }, { name := "DIRECTIONALITY_RIGHT_TO_LEFT_EMBEDDING", type := .byte, accessFlags := 25, slot := 53, constantValue := 0 }, { name := "DIRECTIONALITY_RIGHT_TO_LEFT_OVERRIDE", type := .byte, accessFlags := 25, slot := 54, constantValue := 0 }, { name := "DIRECTIONALITY_POP_DIRECTIONAL_FORMAT", type := .byte, accessFlags := 25, slot := 55, constantValue := 0 }, { name := "DIRECTIONALITY_LEFT_TO_RIGHT_ISOLATE", type := .byte, accessFlags := 25, slot := 56, constantValue := 0 }, { name := "DIRECTIONALITY_RIGHT_TO_LEFT_ISOLATE", type := .byte, accessFlags := 25, slot := 57, constantValue := 0 }, { name := "DIRECTIONALITY_FIRST_STRONG_ISOLATE", type := .byte, accessFlags := 25, slot := 58, constantValue := 0 }, { name := "DIRECTIONALITY_POP_DIRECTIONAL_ISOLATE", type := .byte, accessFlags := 25, slot := 59, constantValue := 0 }, { name := "MIN_HIGH_SURROGATE", type := .char, accessFlags := 25, slot := 60, constantValue := 0 }, { name := "MAX_HIGH_SURROGATE", type := .char, accessFlags := 25, slot := 61, constantValue := 0 }, { name := "MIN_LOW_SURROGATE", type := .char, accessFlags := 25, slot := 62, constantValue := 0 }, { name := "MAX_LOW_SURROGATE", type := .char, accessFlags := 25, slot := 63, constantValue := 0 }, { name := "MIN_SURROGATE", type := .char, accessFlags := 25, slot := 64, constantValue := 0 }, { name := "MAX_SURROGATE", type := .char, accessFlags := 25, slot := 65, constantValue := 0 }, { name := "MIN_SUPPLEMENTARY_CODE_POINT", type := .int, accessFlags := 25, slot := 66, constantValue := 0 }, { name := "MIN_CODE_POINT", type := .int, accessFlags := 25, slot := 67, constantValue := 0 }, { name := "MAX_CODE_POINT", type := .int, accessFlags := 25, slot := 68, constantValue := 0 }, { name := "value", type := .char, accessFlags := 18, slot := 0, constantValue := 0 }, { name := "serialVersionUID", type := .long, accessFlags := 26, slot := 69, constantValue := 0 }, { name := "SIZE", type := .int, accessFlags := 25, slot := 70, constantValue := 0 }, { name := "BYTES", type := .int, accessFlags := 25, slot := 71, constantValue := 0 }, { name := "$assertionsDisabled", type := .boolean, accessFlags := 4120, slot := 72, constantValue := 0 }]
  methods := #[k12m0, k12m1, k12m2]
  instanceTypes := #[.char]
  staticTypes := #[.int, .int, .char, .char, (.object "java/lang/Class"), .byte, .byte, .byte, .byte, .byte, .byte, .byte, .byte, .byte, .byte, .byte, .byte, .byte, .byte, .byte, .byte, .byte, .byte, .byte, .byte, .byte, .byte, .byte, .byte, .byte, .byte, .byte, .byte, .byte, .byte, .int, .byte, .byte, .byte, .byte, .byte, .byte, .byte, .byte, .byte, .byte, .byte, .byte, .byte, .byte, .byte, .byte, .byte, .byte, .byte, .byte, .byte, .byte, .byte, .byte, .char, .char, .char, .char, .char, .char, .int, .int, .int, .long, .int, .int, .boolean]
  resolved := Array.replicate 604 none
  statics := none }

def pool13 : Array CpInfo := pool [(9, u "<init>"), (6, .class_ 18), (1, u "java/lang/Object"), (0, u "()V"), (1, .class_ 23), (1, u "jdk/internal/util/ArraysSupport"), (0, u "LOG2_ARRAY_LONG_INDEX_SCALE"), (0, u "I"), (2, u "U"), (0, u "Ljdk/internal/misc/Unsafe;"), (8, u "BIG_ENDIAN"), (0, u "Z"), (8, u "LOG2_BYTE_BIT_SIZE"), (4, u "LOG2_ARRAY_INT_INDEX_SCALE"), (54, u "JLA"), (0, u "Ljdk/internal/access/JavaLangAccess;"), (11, u "LOG2_ARRAY_BOOLEAN_INDEX_SCALE"), (9, u "LOG2_ARRAY_BYTE_INDEX_SCALE"), (5, u "LOG2_ARRAY_CHAR_INDEX_SCALE"), (5, u "LOG2_ARRAY_SHORT_INDEX_SCALE"), (18, u "LOG2_ARRAY_FLOAT_INDEX_SCALE"), (24, u "LOG2_ARRAY_DOUBLE_INDEX_SCALE"), (89, u "T_BOOLEAN"), (2, u "T_CHAR"), (1, u "T_FLOAT"), (1, u "T_DOUBLE"), (1, u "T_BYTE"), (1, u "T_SHORT"), (1, u "T_INT"), (1, u "T_LONG"), (1, u "SOFT_MAX_ARRAY_LENGTH")] 83

def k13m0 : Method := { name := "<init>", desc := "()V", sig := { parameters := [], returnType := none }, accessFlags := 2, code := none }
/-- jdk/internal/util/ArraysSupport -/
def k13 : Class := { plain "jdk/internal/util/ArraysSupport" (some 0) with
  accessFlags := 33
  interfaces := #[]
  cf := some (fileOf pool13 21 #[] #[{ accessFlags := 2, nameIndex := 9, descriptorIndex := 19, attributes := #[] }] 33 16 #[] #[{ accessFlags := 24, nameIndex := 28, descriptorIndex := 29, attributes := #[] }, { accessFlags := 26, nameIndex := 38, descriptorIndex := 39, attributes := #[] }, { accessFlags := 25, nameIndex := 121, descriptorIndex := 25, attributes := #[] }, { accessFlags := 25, nameIndex := 131, descriptorIndex := 25, attributes := #[] }, { accessFlags := 25, nameIndex := 137, descriptorIndex := 25, attributes := #[] }, { accessFlags := 25, nameIndex := 143, descriptorIndex := 25, attributes := #[] }, { accessFlags := 25, nameIndex := 53, descriptorIndex := 25, attributes := #[] }, { accessFlags := 25, nameIndex := 24, descriptorIndex := 25, attributes := #[] }, { accessFlags := 25, nameIndex := 162, descriptorIndex := 25, attributes := #[] }, { accessFlags := 25, nameIndex := 187, descriptorIndex := 25, attributes := #[] }, { accessFlags := 26, nameIndex := 48, descriptorIndex := 25, attributes := #[] }, { accessFlags := 25, nameIndex := 277, descriptorIndex := 25, attributes := #[] }, { accessFlags := 25, nameIndex := 280, descriptorIndex := 25, attributes := #[] }, { accessFlags := 25, nameIndex := 282, descriptorIndex := 25, attributes := #[] }, { accessFlags := 25, nameIndex := 284, descriptorIndex := 25, attributes := #[] }, { accessFlags := 25, nameIndex := 286, descriptorIndex := 25, attributes := #[] }, { accessFlags := 25, nameIndex := 288, descriptorIndex := 25, attributes := #[] }, { accessFlags := 25, nameIndex := 290, descriptorIndex := 25, attributes := #[] }, { accessFlags := 25, nameIndex := 292, descriptorIndex := 25, attributes := #[] }, { accessFlags := 26, nameIndex := 108, descriptorIndex := 109, attributes := #[] }, { accessFlags := 25, nameIndex := 294, descriptorIndex := 25, attributes := #[] }])
  fields := #[{ name := "U", type := (.object "jdk/internal/misc/Unsafe"), accessFlags := 24, slot := 0, constantValue := 0 }, { name := "BIG_ENDIAN", type := .boolean, accessFlags := 26, slot := 1, constantValue := 0 }, { name := "LOG2_ARRAY_BOOLEAN_INDEX_SCALE", type := .int, accessFlags := 25, slot := 2, constantValue := 0 }, { name := "LOG2_ARRAY_BYTE_INDEX_SCALE", type := .int, accessFlags := 25, slot := 3, constantValue := 0 }, { name := "LOG2_ARRAY_CHAR_INDEX_SCALE", type := .int, accessFlags := 25, slot := 4, constantValue := 0 }, { name := "LOG2_ARRAY_SHORT_INDEX_SCALE", type := .int, accessFlags := 25, slot := 5, constantValue := 0 }, { name := "LOG2_ARRAY_INT_INDEX_SCALE", type := .int, accessFlags := 25, slot := 6, constantValue := 0 }, { name := "LOG2_ARRAY_LONG_INDEX_SCALE", type := .int, accessFlags := 25, slot := 7, constantValue := 0 }, { name := "LOG2_ARRAY_FLOAT_INDEX_SCALE", type := .int, accessFlags := 25, slot := 8, constantValue := 0 }, { name := "LOG2_ARRAY_DOUBLE_INDEX_SCALE", type := .int, accessFlags := 25, slot := 9, constantValue := 0 }, { name := "LOG2_BYTE_BIT_SIZE", type := .int, accessFlags := 26, slot := 10, constantValue := 0 }, { name := "T_BOOLEAN", type := .int, accessFlags := 25, slot := 11, constantValue := 0 }, { name := "T_CHAR", type := .int, accessFlags := 25, slot := 12, constantValue := 0 }, { name := "T_FLOAT", type := .int, accessFlags := 25, slot := 13, constantValue := 0 }, { name := "T_DOUBLE", type := .int, accessFlags := 25, slot := 14, constantValue := 0 }, { name := "T_BYTE", type := .int, accessFlags := 25, slot := 15, constantValue := 0 }, { name := "T_SHORT", type := .int, accessFlags := 25, slot := 16, constantValue := 0 }, { name := "T_INT", type := .int, accessFlags := 25, slot := 17, constantValue := 0 }, { name := "T_LONG", type := .int, accessFlags := 25, slot := 18, constantValue := 0 }, { name := "JLA", type := (.object "jdk/internal/access/JavaLangAccess"), accessFlags := 26, slot := 19, constantValue := 0 }, { name := "SOFT_MAX_ARRAY_LENGTH", type := .int, accessFlags := 25, slot := 20, constantValue := 0 }]
  methods := #[k13m0]
  instanceTypes := #[]
  staticTypes := #[(.object "jdk/internal/misc/Unsafe"), .boolean, .int, .int, .int, .int, .int, .int, .int, .int, .int, .int, .int, .int, .int, .int, .int, .int, .int, (.object "jdk/internal/access/JavaLangAccess"), .int]
  resolved := Array.replicate 378 none
  statics := none }

def pool14 : Array CpInfo := pool [(1, u "java/lang/Cloneable"), (0, .class_ 1), (0, u "java/lang/Object"), (0, .class_ 3)] 3

/-- java/lang/Cloneable -/
def k14 : Class := { plain "java/lang/Cloneable" (some 0) with
  accessFlags := 1537
  interfaces := #[]
  cf := some (fileOf pool14 2 #[] #[] 1537 4 #[] #[])
  fields := #[]
  methods := #[]
  instanceTypes := #[]
  staticTypes := #[]
  resolved := Array.replicate 8 none
  statics := none }

/-- the primitive byte -/
def k15 : Class := { plain "byte" none with kind := .primitive 'B', accessFlags := 0x411 }
/-- [B -/
def k16 : Class := { plain "[B" (some 0) with kind := .array 15 .byte, interfaces := #[14, 2], accessFlags := 1041 }

/-- the primitive char -/
def k17 : Class := { plain "char" none with kind := .primitive 'C', accessFlags := 0x411 }
/-- [C -/
def k18 : Class := { plain "[C" (some 0) with kind := .array 17 .char, interfaces := #[14, 2], accessFlags := 1041 }

/-- the primitive int -/
def k19 : Class := { plain "int" none with kind := .primitive 'I', accessFlags := 0x411 }
/-- [I -/
def k20 : Class := { plain "[I" (some 0) with kind := .array 19 .int, interfaces := #[14, 2], accessFlags := 1041 }

def heap : Heap := #[{ cls := 7, slots := #[.long 0, .int 1, .null, .int 0, .null, .int 0, .int 0], vm := .statics 7 },
  { cls := 9, slots := #[.int 0, .int 8, .int 0, .int 1], vm := .statics 9 },
  { cls := 11, slots := #[.null, .null, .null], vm := .statics 11 }]
def classes : Array Class := #[k0, k1, k2, k3, k4, k5, k6, k7, k8, k9, k10, k11, k12, k13, k14, k15, k16, k17, k18, k19, k20]
def interned : List (Array UInt16 × Addr) := []
def slotsUsed : Nat := 14
def theMethod : MethodId := ⟨1, 1⟩
def args0 : Array Value := #[.int 5, .int 6, .int 7, .int 8, .int 9, .int 10]
def aboutOver (below : List Frame) : State where
  vm := { classes := classes, interned := interned.toArray }
  heap := heap
  slotsUsed := slotsUsed
  threads := #[{ frames := .invoking theMethod args0 :: below }]
def below0 : List Frame := [.native { method := ⟨0, 0⟩, args := #[] }]
def about1 : State := aboutOver below0
def p0 : Program := .bare "" "" ""
def e0 : Env := launch0.env 0 0 0
theorem w_frames : about1.frames = Frame.invoking theMethod args0 :: below0 := rfl
set_option maxRecDepth 65536 in
theorem w_args : argsFit about1.vm theMethod args0 = true := by decide +kernel
set_option maxRecDepth 65536 in
theorem w_heap : heapFits about1 = true := by decide +kernel
set_option maxRecDepth 65536 in
theorem w_runnable : about1.curStatus? = some .runnable := by decide +kernel
set_option maxRecDepth 65536 in
theorem w_alone : about1.alone = true := by decide +kernel
set_option maxRecDepth 65536 in
theorem w_named : about1.methodNamed? x = some theMethod := by decide +kernel
set_option maxRecDepth 65536 in
theorem w_hears : about1.hears theMethod below0 = true := by decide +kernel
set_option maxRecDepth 65536 in
theorem w_ripe : about1.ripe theMethod args0 below0 = true := by decide +kernel
theorem w_running : about1.status = .running := rfl
set_option maxRecDepth 65536 in
theorem w_room : about1.hasRoom e0.platform room_1 = true :=
  launch0.hasRoom_least _ room_1 (by decide +kernel) (by decide +kernel) (by decide +kernel) (by decide +kernel) (by decide +kernel) (by decide +kernel)
theorem allAtoms_all (ts : List Jvm.Cond) (a : Array Jvm.Value) (st : Jvm.State) : (allAtoms ts).before a st = ts.all (fun c => c.before a st) := by
  induction ts with
  | nil => rfl
  | cons c t ih =>
    show (Jvm.Cond.and c (allAtoms t)).before a st = _
    rw [Jvm.Cond.before_and, ih, List.all_cons]
def words1 : List Jvm.Cond := Jvm.Cond.code x code maxLocals ret :: tables_1
/-- a 'code' word, met by the world's own term for the bytes: nothing is compared byte by byte -/
theorem code_word {y : MethodName} {bytes : ByteArray} {mx : Nat} {rt : Option FieldType} {a : Array Value} {s : State} {m : MethodId} {meth : Method} {c : Code} (h1 : s.methodNamed? y = some m) (h2 : s.vm.method? m = some meth) (h3 : meth.code = some c) (h4 : c.code = bytes)
    (h5 : (c.maxLocals == mx && c.exceptionTable.isEmpty && decide (c.maxStack ≤ mostOperands) && decide (meth.sig.returnType = rt) && !meth.locks && decide (parseMethodDescriptor y.desc = some meth.sig)) = true) : (Jvm.Cond.code y bytes mx rt).before a s = true := by
  simp only [Bool.and_eq_true, beq_iff_eq, Bool.not_eq_true', decide_eq_true_eq] at h5
  obtain ⟨⟨⟨⟨⟨g1, g2⟩, g3⟩, g4⟩, g5⟩, g6⟩ := h5
  simp [Cond.before, Cond.holds, Cond.value, h1, h2, h3, h4, g1, g2, g3, g4, g5, g6]
def isCode : Jvm.Cond → Bool
  | .code _ _ _ _ => true
  | _ => false
theorem all_split {L : List Jvm.Cond} {P : Jvm.Cond → Bool} (h1 : L.all (fun c => isCode c || P c) = true) (h2 : ∀ c ∈ L.filter isCode, P c = true) : L.all P = true := by
  refine List.all_eq_true.mpr fun c hc => ?_
  have h := List.all_eq_true.mp h1 c hc
  rcases Bool.eq_false_or_eq_true (isCode c) with hi | hi
  · exact h2 c (List.mem_filter.mpr ⟨hc, hi⟩)
  · simpa [hi] using h
set_option maxRecDepth 65536 in
theorem w_c0 : (Jvm.Cond.code x code maxLocals ret).before args0 about1 = true := code_word (m := ⟨1, 1⟩) (meth := k1m1) (c := k1c1) (by decide +kernel) rfl rfl rfl (by decide +kernel)
set_option maxRecDepth 65536 in
theorem w_c1 : (Jvm.Cond.code ({ cls := "com/example/vestline/vestline/input/SurrogatesFindUnpairedPinLaw", name := "draw", desc := "(I)C" } : Jvm.MethodName) method_3_code (2 : Nat) (Option.some Jvm.ClassFile.FieldType.char)).before args0 about1 = true := code_word (m := ⟨1, 2⟩) (meth := k1m2) (c := k1c2) (by decide +kernel) rfl rfl rfl (by decide +kernel)
set_option maxRecDepth 65536 in
theorem w_c2 : (Jvm.Cond.code ({ cls := "com/example/vestline/vestline/input/SurrogatesFindUnpairedPinLaw", name := "make", desc := "(I[C)Ljava/lang/String;" } : Jvm.MethodName) method_4_code (2 : Nat) (Option.some (Jvm.ClassFile.FieldType.object "java/lang/String"))).before args0 about1 = true := code_word (m := ⟨1, 3⟩) (meth := k1m3) (c := k1c3) (by decide +kernel) rfl rfl rfl (by decide +kernel)
set_option maxRecDepth 65536 in
theorem w_c3 : (Jvm.Cond.code ({ cls := "java/lang/String", name := "<init>", desc := "([C)V" } : Jvm.MethodName) jdk_42_method_3_code (2 : Nat) (Option.none : Option Jvm.ClassFile.FieldType)).before args0 about1 = true := code_word (m := ⟨7, 1⟩) (meth := k7m1) (c := k7c1) (by decide +kernel) rfl rfl rfl (by decide +kernel)
set_option maxRecDepth 65536 in
theorem w_c4 : (Jvm.Cond.code ({ cls := "java/lang/String", name := "<init>", desc := "([CIILjava/lang/Void;)V" } : Jvm.MethodName) jdk_42_method_149_code (6 : Nat) (Option.none : Option Jvm.ClassFile.FieldType)).before args0 about1 = true := code_word (m := ⟨7, 4⟩) (meth := k7m4) (c := k7c4) (by decide +kernel) rfl rfl rfl (by decide +kernel)
set_option maxRecDepth 65536 in
theorem w_c5 : (Jvm.Cond.code ({ cls := "java/lang/Object", name := "<init>", desc := "()V" } : Jvm.MethodName) object_method_1_code (1 : Nat) (Option.none : Option Jvm.ClassFile.FieldType)).before args0 about1 = true := code_word (m := ⟨0, 0⟩) (meth := k0m0) (c := k0c0) (by decide +kernel) rfl rfl rfl (by decide +kernel)
set_option maxRecDepth 65536 in
theorem w_c6 : (Jvm.Cond.code ({ cls := "com/example/vestline/vestline/input/SurrogatesFindUnpairedPinLaw", name := "unpairedAt", desc := "([CII)Z" } : Jvm.MethodName) method_7_code (4 : Nat) (Option.some Jvm.ClassFile.FieldType.boolean)).before args0 about1 = true := code_word (m := ⟨1, 6⟩) (meth := k1m6) (c := k1c6) (by decide +kernel) rfl rfl rfl (by decide +kernel)
set_option maxRecDepth 65536 in
theorem w_c7 : (Jvm.Cond.code ({ cls := "com/example/vestline/vestline/input/Surrogates", name := "findUnpaired", desc := "(Ljava/lang/String;)I" } : Jvm.MethodName) prog_29_method_2_code (3 : Nat) (Option.some Jvm.ClassFile.FieldType.int)).before args0 about1 = true := code_word (m := ⟨8, 1⟩) (meth := k8m1) (c := k8c1) (by decide +kernel) rfl rfl rfl (by decide +kernel)
set_option maxRecDepth 65536 in
theorem w_c8 : (Jvm.Cond.code ({ cls := "java/lang/String", name := "length", desc := "()I" } : Jvm.MethodName) jdk_42_method_54_code (1 : Nat) (Option.some Jvm.ClassFile.FieldType.int)).before args0 about1 = true := code_word (m := ⟨7, 2⟩) (meth := k7m2) (c := k7c2) (by decide +kernel) rfl rfl rfl (by decide +kernel)
set_option maxRecDepth 65536 in
theorem w_c9 : (Jvm.Cond.code ({ cls := "java/lang/String", name := "coder", desc := "()B" } : Jvm.MethodName) jdk_42_method_152_code (1 : Nat) (Option.some Jvm.ClassFile.FieldType.byte)).before args0 about1 = true := code_word (m := ⟨7, 5⟩) (meth := k7m5) (c := k7c5) (by decide +kernel) rfl rfl rfl (by decide +kernel)
set_option maxRecDepth 65536 in
theorem w_c10 : (Jvm.Cond.code ({ cls := "java/lang/StringUTF16", name := "compress", desc := "([CII)[B" } : Jvm.MethodName) jdk_52_method_16_code (6 : Nat) (Option.some (Jvm.ClassFile.FieldType.array Jvm.ClassFile.FieldType.byte))).before args0 about1 = true := code_word (m := ⟨9, 8⟩) (meth := k9m8) (c := k9c8) (by decide +kernel) rfl rfl rfl (by decide +kernel)
set_option maxRecDepth 65536 in
theorem w_c11 : (Jvm.Cond.code ({ cls := "java/lang/StringUTF16", name := "compress", desc := "([CI[BII)I" } : Jvm.MethodName) jdk_52_method_21_code (7 : Nat) (Option.some Jvm.ClassFile.FieldType.int)).before args0 about1 = true := code_word (m := ⟨9, 9⟩) (meth := k9m9) (c := k9c9) (by decide +kernel) rfl rfl rfl (by decide +kernel)
set_option maxRecDepth 65536 in
theorem w_c12 : (Jvm.Cond.code ({ cls := "java/lang/StringUTF16", name := "coderFromArrayLen", desc := "([BI)B" } : Jvm.MethodName) jdk_52_method_15_code (2 : Nat) (Option.some Jvm.ClassFile.FieldType.byte)).before args0 about1 = true := code_word (m := ⟨9, 7⟩) (meth := k9m7) (c := k9c7) (by decide +kernel) rfl rfl rfl (by decide +kernel)
set_option maxRecDepth 65536 in
theorem w_c13 : (Jvm.Cond.code ({ cls := "com/example/vestline/vestline/input/SurrogatesFindUnpairedPinLaw", name := "isHigh", desc := "(C)Z" } : Jvm.MethodName) method_5_code (1 : Nat) (Option.some Jvm.ClassFile.FieldType.boolean)).before args0 about1 = true := code_word (m := ⟨1, 4⟩) (meth := k1m4) (c := k1c4) (by decide +kernel) rfl rfl rfl (by decide +kernel)
set_option maxRecDepth 65536 in
theorem w_c14 : (Jvm.Cond.code ({ cls := "com/example/vestline/vestline/input/SurrogatesFindUnpairedPinLaw", name := "isLow", desc := "(C)Z" } : Jvm.MethodName) method_6_code (1 : Nat) (Option.some Jvm.ClassFile.FieldType.boolean)).before args0 about1 = true := code_word (m := ⟨1, 5⟩) (meth := k1m5) (c := k1c5) (by decide +kernel) rfl rfl rfl (by decide +kernel)
set_option maxRecDepth 65536 in
theorem w_c15 : (Jvm.Cond.code ({ cls := "java/lang/String", name := "charAt", desc := "(I)C" } : Jvm.MethodName) jdk_42_method_56_code (2 : Nat) (Option.some Jvm.ClassFile.FieldType.char)).before args0 about1 = true := code_word (m := ⟨7, 3⟩) (meth := k7m3) (c := k7c3) (by decide +kernel) rfl rfl rfl (by decide +kernel)
set_option maxRecDepth 65536 in
theorem w_c16 : (Jvm.Cond.code ({ cls := "java/lang/String", name := "isLatin1", desc := "()Z" } : Jvm.MethodName) jdk_42_method_154_code (1 : Nat) (Option.some Jvm.ClassFile.FieldType.boolean)).before args0 about1 = true := code_word (m := ⟨7, 6⟩) (meth := k7m6) (c := k7c6) (by decide +kernel) rfl rfl rfl (by decide +kernel)
set_option maxRecDepth 65536 in
theorem w_c17 : (Jvm.Cond.code ({ cls := "java/lang/StringLatin1", name := "charAt", desc := "([BI)C" } : Jvm.MethodName) jdk_43_method_2_code (2 : Nat) (Option.some Jvm.ClassFile.FieldType.char)).before args0 about1 = true := code_word (m := ⟨10, 1⟩) (meth := k10m1) (c := k10c1) (by decide +kernel) rfl rfl rfl (by decide +kernel)
set_option maxRecDepth 65536 in
theorem w_c18 : (Jvm.Cond.code ({ cls := "java/lang/String", name := "checkIndex", desc := "(II)V" } : Jvm.MethodName) jdk_42_method_155_code (2 : Nat) (Option.none : Option Jvm.ClassFile.FieldType)).before args0 about1 = true := code_word (m := ⟨7, 7⟩) (meth := k7m7) (c := k7c7) (by decide +kernel) rfl rfl rfl (by decide +kernel)
set_option maxRecDepth 65536 in
theorem w_c19 : (Jvm.Cond.code ({ cls := "jdk/internal/util/Preconditions", name := "checkIndex", desc := "(IILjava/util/function/BiFunction;)I" } : Jvm.MethodName) jdk_41_method_11_code (3 : Nat) (Option.some Jvm.ClassFile.FieldType.int)).before args0 about1 = true := code_word (m := ⟨11, 1⟩) (meth := k11m1) (c := k11c1) (by decide +kernel) rfl rfl rfl (by decide +kernel)
set_option maxRecDepth 65536 in
theorem w_c20 : (Jvm.Cond.code ({ cls := "java/lang/Character", name := "isHighSurrogate", desc := "(C)Z" } : Jvm.MethodName) jdk_89_method_14_code (1 : Nat) (Option.some Jvm.ClassFile.FieldType.boolean)).before args0 about1 = true := code_word (m := ⟨12, 0⟩) (meth := k12m0) (c := k12c0) (by decide +kernel) rfl rfl rfl (by decide +kernel)
set_option maxRecDepth 65536 in
theorem w_c21 : (Jvm.Cond.code ({ cls := "java/lang/Character", name := "isSurrogate", desc := "(C)Z" } : Jvm.MethodName) jdk_89_method_16_code (1 : Nat) (Option.some Jvm.ClassFile.FieldType.boolean)).before args0 about1 = true := code_word (m := ⟨12, 2⟩) (meth := k12m2) (c := k12c2) (by decide +kernel) rfl rfl rfl (by decide +kernel)
set_option maxRecDepth 65536 in
theorem w_c22 : (Jvm.Cond.code ({ cls := "java/lang/StringUTF16", name := "toBytes", desc := "([CII)[B" } : Jvm.MethodName) jdk_52_method_14_code (5 : Nat) (Option.some (Jvm.ClassFile.FieldType.array Jvm.ClassFile.FieldType.byte))).before args0 about1 = true := code_word (m := ⟨9, 6⟩) (meth := k9m6) (c := k9c6) (by decide +kernel) rfl rfl rfl (by decide +kernel)
set_option maxRecDepth 65536 in
theorem w_c23 : (Jvm.Cond.code ({ cls := "java/lang/StringUTF16", name := "newBytesFor", desc := "(I)[B" } : Jvm.MethodName) jdk_52_method_2_code (1 : Nat) (Option.some (Jvm.ClassFile.FieldType.array Jvm.ClassFile.FieldType.byte))).before args0 about1 = true := code_word (m := ⟨9, 1⟩) (meth := k9m1) (c := k9c1) (by decide +kernel) rfl rfl rfl (by decide +kernel)
set_option maxRecDepth 65536 in
theorem w_c24 : (Jvm.Cond.code ({ cls := "java/lang/StringUTF16", name := "newBytesLength", desc := "(I)I" } : Jvm.MethodName) jdk_52_method_3_code (1 : Nat) (Option.some Jvm.ClassFile.FieldType.int)).before args0 about1 = true := code_word (m := ⟨9, 2⟩) (meth := k9m2) (c := k9c2) (by decide +kernel) rfl rfl rfl (by decide +kernel)
set_option maxRecDepth 65536 in
theorem w_c25 : (Jvm.Cond.code ({ cls := "java/lang/StringUTF16", name := "putChar", desc := "([BII)V" } : Jvm.MethodName) jdk_52_method_4_code (3 : Nat) (Option.none : Option Jvm.ClassFile.FieldType)).before args0 about1 = true := code_word (m := ⟨9, 3⟩) (meth := k9m3) (c := k9c3) (by decide +kernel) rfl rfl rfl (by decide +kernel)
set_option maxRecDepth 65536 in
theorem w_c26 : (Jvm.Cond.code ({ cls := "java/lang/StringUTF16", name := "getChar", desc := "([BI)C" } : Jvm.MethodName) jdk_52_method_5_code (2 : Nat) (Option.some Jvm.ClassFile.FieldType.char)).before args0 about1 = true := code_word (m := ⟨9, 4⟩) (meth := k9m4) (c := k9c4) (by decide +kernel) rfl rfl rfl (by decide +kernel)
set_option maxRecDepth 65536 in
theorem w_c27 : (Jvm.Cond.code ({ cls := "java/lang/StringUTF16", name := "charAt", desc := "([BI)C" } : Jvm.MethodName) jdk_52_method_83_code (2 : Nat) (Option.some Jvm.ClassFile.FieldType.char)).before args0 about1 = true := code_word (m := ⟨9, 10⟩) (meth := k9m10) (c := k9c10) (by decide +kernel) rfl rfl rfl (by decide +kernel)
set_option maxRecDepth 65536 in
theorem w_c28 : (Jvm.Cond.code ({ cls := "java/lang/StringUTF16", name := "checkIndex", desc := "(I[B)V" } : Jvm.MethodName) jdk_52_method_91_code (2 : Nat) (Option.none : Option Jvm.ClassFile.FieldType)).before args0 about1 = true := code_word (m := ⟨9, 11⟩) (meth := k9m11) (c := k9c11) (by decide +kernel) rfl rfl rfl (by decide +kernel)
set_option maxRecDepth 65536 in
theorem w_c29 : (Jvm.Cond.code ({ cls := "java/lang/StringUTF16", name := "length", desc := "([B)I" } : Jvm.MethodName) jdk_52_method_6_code (1 : Nat) (Option.some Jvm.ClassFile.FieldType.int)).before args0 about1 = true := code_word (m := ⟨9, 5⟩) (meth := k9m5) (c := k9c5) (by decide +kernel) rfl rfl rfl (by decide +kernel)
set_option maxRecDepth 65536 in
theorem w_c30 : (Jvm.Cond.code ({ cls := "java/lang/Character", name := "isLowSurrogate", desc := "(C)Z" } : Jvm.MethodName) jdk_89_method_15_code (1 : Nat) (Option.some Jvm.ClassFile.FieldType.boolean)).before args0 about1 = true := code_word (m := ⟨12, 1⟩) (meth := k12m1) (c := k12c1) (by decide +kernel) rfl rfl rfl (by decide +kernel)
def codes1 : List Jvm.Cond := [Jvm.Cond.code x code maxLocals ret, Jvm.Cond.code ({ cls := "com/example/vestline/vestline/input/SurrogatesFindUnpairedPinLaw", name := "draw", desc := "(I)C" } : Jvm.MethodName) method_3_code (2 : Nat) (Option.some Jvm.ClassFile.FieldType.char), Jvm.Cond.code ({ cls := "com/example/vestline/vestline/input/SurrogatesFindUnpairedPinLaw", name := "make", desc := "(I[C)Ljava/lang/String;" } : Jvm.MethodName) method_4_code (2 : Nat) (Option.some (Jvm.ClassFile.FieldType.object "java/lang/String")), Jvm.Cond.code ({ cls := "java/lang/String", name := "<init>", desc := "([C)V" } : Jvm.MethodName) jdk_42_method_3_code (2 : Nat) (Option.none : Option Jvm.ClassFile.FieldType), Jvm.Cond.code ({ cls := "java/lang/String", name := "<init>", desc := "([CIILjava/lang/Void;)V" } : Jvm.MethodName) jdk_42_method_149_code (6 : Nat) (Option.none : Option Jvm.ClassFile.FieldType), Jvm.Cond.code ({ cls := "java/lang/Object", name := "<init>", desc := "()V" } : Jvm.MethodName) object_method_1_code (1 : Nat) (Option.none : Option Jvm.ClassFile.FieldType), Jvm.Cond.code ({ cls := "com/example/vestline/vestline/input/SurrogatesFindUnpairedPinLaw", name := "unpairedAt", desc := "([CII)Z" } : Jvm.MethodName) method_7_code (4 : Nat) (Option.some Jvm.ClassFile.FieldType.boolean), Jvm.Cond.code ({ cls := "com/example/vestline/vestline/input/Surrogates", name := "findUnpaired", desc := "(Ljava/lang/String;)I" } : Jvm.MethodName) prog_29_method_2_code (3 : Nat) (Option.some Jvm.ClassFile.FieldType.int), Jvm.Cond.code ({ cls := "java/lang/String", name := "length", desc := "()I" } : Jvm.MethodName) jdk_42_method_54_code (1 : Nat) (Option.some Jvm.ClassFile.FieldType.int), Jvm.Cond.code ({ cls := "java/lang/String", name := "coder", desc := "()B" } : Jvm.MethodName) jdk_42_method_152_code (1 : Nat) (Option.some Jvm.ClassFile.FieldType.byte), Jvm.Cond.code ({ cls := "java/lang/StringUTF16", name := "compress", desc := "([CII)[B" } : Jvm.MethodName) jdk_52_method_16_code (6 : Nat) (Option.some (Jvm.ClassFile.FieldType.array Jvm.ClassFile.FieldType.byte)), Jvm.Cond.code ({ cls := "java/lang/StringUTF16", name := "compress", desc := "([CI[BII)I" } : Jvm.MethodName) jdk_52_method_21_code (7 : Nat) (Option.some Jvm.ClassFile.FieldType.int), Jvm.Cond.code ({ cls := "java/lang/StringUTF16", name := "coderFromArrayLen", desc := "([BI)B" } : Jvm.MethodName) jdk_52_method_15_code (2 : Nat) (Option.some Jvm.ClassFile.FieldType.byte), Jvm.Cond.code ({ cls := "com/example/vestline/vestline/input/SurrogatesFindUnpairedPinLaw", name := "isHigh", desc := "(C)Z" } : Jvm.MethodName) method_5_code (1 : Nat) (Option.some Jvm.ClassFile.FieldType.boolean), Jvm.Cond.code ({ cls := "com/example/vestline/vestline/input/SurrogatesFindUnpairedPinLaw", name := "isLow", desc := "(C)Z" } : Jvm.MethodName) method_6_code (1 : Nat) (Option.some Jvm.ClassFile.FieldType.boolean), Jvm.Cond.code ({ cls := "java/lang/String", name := "charAt", desc := "(I)C" } : Jvm.MethodName) jdk_42_method_56_code (2 : Nat) (Option.some Jvm.ClassFile.FieldType.char), Jvm.Cond.code ({ cls := "java/lang/String", name := "isLatin1", desc := "()Z" } : Jvm.MethodName) jdk_42_method_154_code (1 : Nat) (Option.some Jvm.ClassFile.FieldType.boolean), Jvm.Cond.code ({ cls := "java/lang/StringLatin1", name := "charAt", desc := "([BI)C" } : Jvm.MethodName) jdk_43_method_2_code (2 : Nat) (Option.some Jvm.ClassFile.FieldType.char), Jvm.Cond.code ({ cls := "java/lang/String", name := "checkIndex", desc := "(II)V" } : Jvm.MethodName) jdk_42_method_155_code (2 : Nat) (Option.none : Option Jvm.ClassFile.FieldType), Jvm.Cond.code ({ cls := "jdk/internal/util/Preconditions", name := "checkIndex", desc := "(IILjava/util/function/BiFunction;)I" } : Jvm.MethodName) jdk_41_method_11_code (3 : Nat) (Option.some Jvm.ClassFile.FieldType.int), Jvm.Cond.code ({ cls := "java/lang/Character", name := "isHighSurrogate", desc := "(C)Z" } : Jvm.MethodName) jdk_89_method_14_code (1 : Nat) (Option.some Jvm.ClassFile.FieldType.boolean), Jvm.Cond.code ({ cls := "java/lang/Character", name := "isSurrogate", desc := "(C)Z" } : Jvm.MethodName) jdk_89_method_16_code (1 : Nat) (Option.some Jvm.ClassFile.FieldType.boolean), Jvm.Cond.code ({ cls := "java/lang/StringUTF16", name := "toBytes", desc := "([CII)[B" } : Jvm.MethodName) jdk_52_method_14_code (5 : Nat) (Option.some (Jvm.ClassFile.FieldType.array Jvm.ClassFile.FieldType.byte)), Jvm.Cond.code ({ cls := "java/lang/StringUTF16", name := "newBytesFor", desc := "(I)[B" } : Jvm.MethodName) jdk_52_method_2_code (1 : Nat) (Option.some (Jvm.ClassFile.FieldType.array Jvm.ClassFile.FieldType.byte)), Jvm.Cond.code ({ cls := "java/lang/StringUTF16", name := "newBytesLength", desc := "(I)I" } : Jvm.MethodName) jdk_52_method_3_code (1 : Nat) (Option.some Jvm.ClassFile.FieldType.int), Jvm.Cond.code ({ cls := "java/lang/StringUTF16", name := "putChar", desc := "([BII)V" } : Jvm.MethodName) jdk_52_method_4_code (3 : Nat) (Option.none : Option Jvm.ClassFile.FieldType), Jvm.Cond.code ({ cls := "java/lang/StringUTF16", name := "getChar", desc := "([BI)C" } : Jvm.MethodName) jdk_52_method_5_code (2 : Nat) (Option.some Jvm.ClassFile.FieldType.char), Jvm.Cond.code ({ cls := "java/lang/StringUTF16", name := "charAt", desc := "([BI)C" } : Jvm.MethodName) jdk_52_method_83_code (2 : Nat) (Option.some Jvm.ClassFile.FieldType.char), Jvm.Cond.code ({ cls := "java/lang/StringUTF16", name := "checkIndex", desc := "(I[B)V" } : Jvm.MethodName) jdk_52_method_91_code (2 : Nat) (Option.none : Option Jvm.ClassFile.FieldType), Jvm.Cond.code ({ cls := "java/lang/StringUTF16", name := "length", desc := "([B)I" } : Jvm.MethodName) jdk_52_method_6_code (1 : Nat) (Option.some Jvm.ClassFile.FieldType.int), Jvm.Cond.code ({ cls := "java/lang/Character", name := "isLowSurrogate", desc := "(C)Z" } : Jvm.MethodName) jdk_89_method_15_code (1 : Nat) (Option.some Jvm.ClassFile.FieldType.boolean)]
set_option maxRecDepth 65536 in
theorem codes_eq : words1.filter isCode = codes1 := rfl
theorem w_codes : ∀ c ∈ words1.filter isCode, c.before args0 about1 = true := by
  rw [codes_eq]
  intro c hc
  simp only [codes1, List.mem_cons, List.not_mem_nil, or_false] at hc
  rcases hc with rfl | rfl | rfl | rfl | rfl | rfl | rfl | rfl | rfl | rfl | rfl | rfl | rfl | rfl | rfl | rfl | rfl | rfl | rfl | rfl | rfl | rfl | rfl | rfl | rfl | rfl | rfl | rfl | rfl | rfl | rfl
  · exact w_c0
  · exact w_c1
  · exact w_c2
  · exact w_c3
  · exact w_c4
  · exact w_c5
  · exact w_c6
  · exact w_c7
  · exact w_c8
  · exact w_c9
  · exact w_c10
  · exact w_c11
  · exact w_c12
  · exact w_c13
  · exact w_c14
  · exact w_c15
  · exact w_c16
  · exact w_c17
  · exact w_c18
  · exact w_c19
  · exact w_c20
  · exact w_c21
  · exact w_c22
  · exact w_c23
  · exact w_c24
  · exact w_c25
  · exact w_c26
  · exact w_c27
  · exact w_c28
  · exact w_c29
  · exact w_c30
set_option maxRecDepth 65536 in
theorem w_t1 : (words1.take 24).all (fun c => isCode c || c.before args0 about1) = true := by decide +kernel
set_option maxRecDepth 65536 in
theorem w_t2 : ((words1.drop 24).take 24).all (fun c => isCode c || c.before args0 about1) = true := by decide +kernel
set_option maxRecDepth 65536 in
theorem w_t3 : (((words1.drop 24).drop 24).take 24).all (fun c => isCode c || c.before args0 about1) = true := by decide +kernel
set_option maxRecDepth 65536 in
theorem w_t4 : ((((words1.drop 24).drop 24).drop 24).take 24).all (fun c => isCode c || c.before args0 about1) = true := by decide +kernel
set_option maxRecDepth 65536 in
theorem w_t5 : (((((words1.drop 24).drop 24).drop 24).drop 24).take 24).all (fun c => isCode c || c.before args0 about1) = true := by decide +kernel
set_option maxRecDepth 65536 in
theorem w_t6 : (((((words1.drop 24).drop 24).drop 24).drop 24).drop 24).all (fun c => isCode c || c.before args0 about1) = true := by decide +kernel
theorem w_tables : (allAtoms (Jvm.Cond.code x code maxLocals ret :: tables_1)).before args0 about1 = true := by
  rw [allAtoms_all]
  show words1.all (fun c => c.before args0 about1) = true
  refine all_split ?_ w_codes
  rw [← List.take_append_drop 24 words1, List.all_append, w_t1, ← List.take_append_drop 24 (words1.drop 24), List.all_append, w_t2, ← List.take_append_drop 24 ((words1.drop 24).drop 24), List.all_append, w_t3, ← List.take_append_drop 24 (((words1.drop 24).drop 24).drop 24), List.all_append, w_t4, ← List.take_append_drop 24 ((((words1.drop 24).drop 24).drop 24).drop 24), List.all_append, w_t5, w_t6]
  rfl
set_option maxRecDepth 65536 in
theorem w_rest : rest_1_c.before args0 about1 = true := by decide +kernel
set_option maxRecDepth 65536 in
theorem w_case : (Jvm.Cond.and given_1 narrow_1).before args0 about1 = true := by decide +kernel
set_option maxRecDepth 65536 in
theorem w_consts : constsHeld consts_1 about1 := Jvm.Lit.constsHeldB_iff.mp (by decide +kernel)
theorem w_applies : (headSpec (Jvm.Cond.code x code maxLocals ret :: tables_1) room_1).applies x e0.platform about1 = true :=
  (Spec.applies_iff w_frames).mpr ⟨w_running, w_runnable, w_alone, w_named, w_hears, w_ripe, w_room, w_tables⟩
theorem atStart : AtStart classFile x code maxLocals ret World_1 tables_1 room_1 Calls_1 rest_1 Pre_1 launch0 p0 e0 about1 theMethod args0 below0 :=
  ⟨lists_1, trivial, launch0.admits_env _ _ _, launch0.least_env, fairChoices_fair.cas, fairChoices_fair.clock, w_frames, w_args, w_heap, w_applies, ⟨w_consts, trivial⟩, w_rest, w_case⟩
end start1
theorem witness_1 : WitnessClaimed_1 := ⟨start1.p0, start1.e0, start1.about1, start1.theMethod, start1.args0, start1.below0, start1.atStart⟩
end Jvm.Pilot.@@N@@
