import JvmDerived
import JvmDerived.Pilot.@@N@@Statement
import JvmDerived.Pilot.@@N@@Code
set_option linter.unusedVariables false
set_option linter.unusedSimpArgs false
namespace Jvm.Pilot.@@N@@
open Jvm Jvm.ClassFile Sem Op Lib Jvm.Free Jvm.Stand Jvm.LawKit Jvm.RoadKit Bundle Jvm.Pilot.@@N@@.Jvm.D
section WK
/-! A walk's standing goal in one word: wkP says that from this frame over this heap the body ends as Q says. -/
abbrev EL : List (String × Nat) := consts_1
abbrev wkB : Type := MethodName × ByteArray × Nat × Option FieldType
/-- the cells that may be written: made since the case's start, no literal's, made by this body or handed in as such -/
def wkSf (Z : State) (vm : Vm) (h hs : Heap) (w0 ws : List Addr) : Prop := ∀ x ∈ ws, Z.heap.size ≤ x ∧ x < h.size ∧ Safe Z EL vm h x ∧ (x ∈ w0 ∨ hs.size ≤ x)
def wkAt (p : Program) (l : Launch) (e : Env) (R : Room) (s : State) (m : MethodId) (args : Array Value) (below : List Frame) (meth : Method) (c : Code) (Z : State) (B : wkB) (hs : Heap) (w0 ws : List Addr) (h : Heap) (k n : Nat) (vm0 : Vm) (k0 : Nat) (T : State) (locs : List Loc) : Prop :=
  (p.tables.exec = Jvm.exec ∧ c.code = B.2.1 ∧ c.maxLocals = B.2.2.1 ∧ meth.sig.returnType = B.2.2.2 ∧ meth.locks = false ∧ meth.name = B.1.name) ∧
  Stand p l e R (s.setVm vm0) m args below meth c T locs k n ∧ T.heap = h ∧ (s.Since vm0 k0 ∧ k0 ≤ h.size) ∧ Z.Warmed39 vm0 ∧ vm0.findClass B.1.cls = some m.cls ∧ CHr Z EL s.vm s.heap vm0 h ∧ Fr Z.heap.size locs ∧ Old Z Z.heap.size h ∧ Keep hs h w0 ∧ wkSf Z vm0 h hs w0 ws
def wkEnd (R : Room) (s Z : State) (hs : Heap) (w0 : List Addr) (Q : Option Value → Heap → List Addr → Prop) (U : State) (o : Outcome) : Prop :=
  ∃ v L, o = .returned v ∧ (∃ os, Q v U.heap os ∧ Keep hs U.heap w0 ∧ Fr Z.heap.size L ∧ Old Z Z.heap.size U.heap ∧ wkSf Z U.vm U.heap hs w0 os) ∧ CHr Z EL s.vm s.heap U.vm U.heap ∧ ReturnedEndW s o U L R.cells R.slots
def wkP (l : Launch) (Z : State) (B : wkB) (R : Room) (hs : Heap) (w0 : List Addr) (Q : Option Value → Heap → List Addr → Prop) (ws : List Addr) (h : Heap) (k n pc : Nat) (Ls : Array Slot) (st : List Value) : Prop :=
  ∀ (p : Program) (e : Env) (s : State) (m : MethodId) (args : Array Value) (below : List Frame) (meth : Method) (c : Code) (vm0 : Vm) (k0 : Nat) (T : State) (locs : List Loc), wkAt p l e R s m args below meth c Z B hs w0 ws h k n vm0 k0 T locs →
    ∃ (U : State) (o : Outcome), Steps p.tables e below (T.setTop (mkF m pc Ls st)) U ∧ U.status = .running ∧ Ended U below o ∧ wkEnd R s Z hs w0 Q U o
/-- a body's contract: with these arguments over this heap, writing at most w0 of what stood, it returns as Q says -/
def wkM (l : Launch) (Z : State) (B : wkB) (rm : Room) (as : Array Value) (h : Heap) (w0 : List Addr) (Q : Option Value → Heap → List Addr → Prop) : Prop :=
  Old Z Z.heap.size h → (∀ x ∈ w0, Z.heap.size ≤ x ∧ x < h.size) →
  MetFree l B.1 (head1 [Cond.code B.1 B.2.1 B.2.2.1 B.2.2.2] rm) (fun a U => a = as ∧ Z.Warmed39 U.vm ∧ U.heap = h ∧ CHv Z EL U.vm h ∧ ∀ x ∈ w0, Safe Z EL U.vm h x) (fun _ _ _ _ _ => True) (fun _ U o U' => wkEnd rm U Z h w0 Q U' o)
section Rules
variable {l : Launch} {Z : State} {B : wkB} {R : Room} {hs : Heap} {w0 : List Addr} {Q : Option Value → Heap → List Addr → Prop} {ws : List Addr} {h : Heap} {k n pc : Nat} {Ls : Array Slot} {st : List Value} {a0 : Array Value}
theorem wkP.pure {pc' : Nat} {Ls' : Array Slot} {st' : List Value}
    (hst : ∀ (p : Program) (e : Env) (s : State) (m : MethodId) (args : Array Value) (below : List Frame) (meth : Method) (c : Code) (vm0 : Vm) (T : State) (locs : List Loc), p.tables.exec = Jvm.exec → c.code = B.2.1 → Stand p l e R (s.setVm vm0) m args below meth c T locs k n → ∀ target, Steps p.tables e below (T.setTop (mkF m pc' Ls' st')) target → Steps p.tables e below (T.setTop (mkF m pc Ls st)) target)
    (K : wkP l Z B R hs w0 Q ws h k n pc' Ls' st') : wkP l Z B R hs w0 Q ws h k n pc Ls st := by
  intro p e s m args below meth c vm0 k0 T locs A
  obtain ⟨U, o, q, r⟩ := K p e s m args below meth c vm0 k0 T locs A
  exact ⟨U, o, hst p e s m args below meth c vm0 T locs A.1.1 A.1.2.1 A.2.1 U q, r⟩
theorem wkP.iload (pc' : Nat) {j : Nat} {v : Int32} (hd : decode B.2.1 pc = .ok (.iload j, 2)) (hl : Ls[j]? = some (.val (.int v))) (hp : pc + 2 = pc') (K : wkP l Z B R hs w0 Q ws h k n pc' Ls (.int v :: st)) : wkP l Z B R hs w0 Q ws h k n pc Ls st := by
  subst hp; exact .pure (fun p e s m args below meth c vm0 T locs hx hby X t q => XS.iload X.here hx rfl (hb hby hd) hl q) K
theorem wkP.iloadN (pc' : Nat) {j : Fin 4} {v : Int32} (hd : decode B.2.1 pc = .ok (.iload_n j, 1)) (hl : Ls[j.val]? = some (.val (.int v))) (hp : pc + 1 = pc') (K : wkP l Z B R hs w0 Q ws h k n pc' Ls (.int v :: st)) : wkP l Z B R hs w0 Q ws h k n pc Ls st := by
  subst hp; exact .pure (fun p e s m args below meth c vm0 T locs hx hby X t q => XS.iloadN X.here hx rfl (hb hby hd) hl q) K
theorem wkP.aload (pc' : Nat) {j : Nat} {v : Value} (hd : decode B.2.1 pc = .ok (.aload j, 2)) (hl : Ls[j]? = some (.val v)) (hv : v.isRef = true) (hp : pc + 2 = pc') (K : wkP l Z B R hs w0 Q ws h k n pc' Ls (v :: st)) : wkP l Z B R hs w0 Q ws h k n pc Ls st := by
  subst hp; exact .pure (fun p e s m args below meth c vm0 T locs hx hby X t q => XS.aload X.here hx rfl (hb hby hd) hl hv q) K
theorem wkP.aloadN (pc' : Nat) {j : Fin 4} {v : Value} (hd : decode B.2.1 pc = .ok (.aload_n j, 1)) (hl : Ls[j.val]? = some (.val v)) (hv : v.isRef = true) (hp : pc + 1 = pc') (K : wkP l Z B R hs w0 Q ws h k n pc' Ls (v :: st)) : wkP l Z B R hs w0 Q ws h k n pc Ls st := by
  subst hp; exact .pure (fun p e s m args below meth c vm0 T locs hx hby X t q => XS.aloadN X.here hx rfl (hb hby hd) hl hv q) K
theorem wkP.lload (pc' : Nat) {j : Nat} {v : Int64} (hd : decode B.2.1 pc = .ok (.lload j, 2)) (hl : Ls[j]? = some (.val (.long v))) (hp : pc + 2 = pc') (K : wkP l Z B R hs w0 Q ws h k n pc' Ls (.long v :: st)) : wkP l Z B R hs w0 Q ws h k n pc Ls st := by
  subst hp; exact .pure (fun p e s m args below meth c vm0 T locs hx hby X t q => XS.lload X.here hx rfl (hb hby hd) hl q) K
theorem wkP.lloadN (pc' : Nat) {j : Fin 4} {v : Int64} (hd : decode B.2.1 pc = .ok (.lload_n j, 1)) (hl : Ls[j.val]? = some (.val (.long v))) (hp : pc + 1 = pc') (K : wkP l Z B R hs w0 Q ws h k n pc' Ls (.long v :: st)) : wkP l Z B R hs w0 Q ws h k n pc Ls st := by
  subst hp; exact .pure (fun p e s m args below meth c vm0 T locs hx hby X t q => XS.lloadN X.here hx rfl (hb hby hd) hl q) K
theorem wkP.iconst (pc' : Nat) {i : Int} (v : Int32) (hd : decode B.2.1 pc = .ok (.iconst i, 1)) (hv : Int32.ofInt i = v) (hp : pc + 1 = pc') (K : wkP l Z B R hs w0 Q ws h k n pc' Ls (.int v :: st)) : wkP l Z B R hs w0 Q ws h k n pc Ls st := by
  subst hp hv; exact .pure (fun p e s m args below meth c vm0 T locs hx hby X t q => XS.iconst X.here hx rfl (hb hby hd) q) K
theorem wkP.bipush (pc' : Nat) {i : Int} (v : Int32) (hd : decode B.2.1 pc = .ok (.bipush i, 2)) (hv : (Int8.ofInt i).toInt32 = v) (hp : pc + 2 = pc') (K : wkP l Z B R hs w0 Q ws h k n pc' Ls (.int v :: st)) : wkP l Z B R hs w0 Q ws h k n pc Ls st := by
  subst hp hv; exact .pure (fun p e s m args below meth c vm0 T locs hx hby X t q => XS.bipush X.here hx rfl (hb hby hd) q) K
theorem wkP.sipush (pc' : Nat) {i : Int} (v : Int32) (hd : decode B.2.1 pc = .ok (.sipush i, 3)) (hv : (Int16.ofInt i).toInt32 = v) (hp : pc + 3 = pc') (K : wkP l Z B R hs w0 Q ws h k n pc' Ls (.int v :: st)) : wkP l Z B R hs w0 Q ws h k n pc Ls st := by
  subst hp hv; exact .pure (fun p e s m args below meth c vm0 T locs hx hby X t q => XS.sipush X.here hx rfl (hb hby hd) q) K
theorem wkP.anull (pc' : Nat) (hd : decode B.2.1 pc = .ok (.aconst_null, 1)) (hp : pc + 1 = pc') (K : wkP l Z B R hs w0 Q ws h k n pc' Ls (.null :: st)) : wkP l Z B R hs w0 Q ws h k n pc Ls st := by
  subst hp; exact .pure (fun p e s m args below meth c vm0 T locs hx hby X t q => XS.aconstNull X.here hx rfl (hb hby hd) q) K
theorem wkP.istore (pc' : Nat) {j : Nat} {x : Int32} (Ls' : Array Slot) (hd : decode B.2.1 pc = .ok (.istore j, 2)) (hl : storeLocals Ls j (.int x) = some Ls') (hp : pc + 2 = pc') (K : wkP l Z B R hs w0 Q ws h k n pc' Ls' st) : wkP l Z B R hs w0 Q ws h k n pc Ls (.int x :: st) := by
  subst hp; exact .pure (fun p e s m args below meth c vm0 T locs hx hby X t q => XS.istore X.here hx rfl (hb hby hd) rfl hl q) K
theorem wkP.istoreN (pc' : Nat) {j : Fin 4} {x : Int32} (Ls' : Array Slot) (hd : decode B.2.1 pc = .ok (.istore_n j, 1)) (hl : storeLocals Ls j.val (.int x) = some Ls') (hp : pc + 1 = pc') (K : wkP l Z B R hs w0 Q ws h k n pc' Ls' st) : wkP l Z B R hs w0 Q ws h k n pc Ls (.int x :: st) := by
  subst hp; exact .pure (fun p e s m args below meth c vm0 T locs hx hby X t q => XS.istoreN X.here hx rfl (hb hby hd) rfl hl q) K
theorem wkP.astore (pc' : Nat) {j : Nat} {x : Value} (Ls' : Array Slot) (hd : decode B.2.1 pc = .ok (.astore j, 2)) (hv : x.isRef = true) (hl : storeLocals Ls j x = some Ls') (hp : pc + 2 = pc') (K : wkP l Z B R hs w0 Q ws h k n pc' Ls' st) : wkP l Z B R hs w0 Q ws h k n pc Ls (x :: st) := by
  subst hp; exact .pure (fun p e s m args below meth c vm0 T locs hx hby X t q => XS.astore X.here hx rfl (hb hby hd) rfl hv hl q) K
theorem wkP.astoreN (pc' : Nat) {j : Fin 4} {x : Value} (Ls' : Array Slot) (hd : decode B.2.1 pc = .ok (.astore_n j, 1)) (hv : x.isRef = true) (hl : storeLocals Ls j.val x = some Ls') (hp : pc + 1 = pc') (K : wkP l Z B R hs w0 Q ws h k n pc' Ls' st) : wkP l Z B R hs w0 Q ws h k n pc Ls (x :: st) := by
  subst hp; exact .pure (fun p e s m args below meth c vm0 T locs hx hby X t q => XS.astoreN X.here hx rfl (hb hby hd) rfl hv hl q) K
theorem wkP.lstore (pc' : Nat) {j : Nat} {x : Int64} (Ls' : Array Slot) (hd : decode B.2.1 pc = .ok (.lstore j, 2)) (hl : storeLocals Ls j (.long x) = some Ls') (hp : pc + 2 = pc') (K : wkP l Z B R hs w0 Q ws h k n pc' Ls' st) : wkP l Z B R hs w0 Q ws h k n pc Ls (.long x :: st) := by
  subst hp; exact .pure (fun p e s m args below meth c vm0 T locs hx hby X t q => XS.lstore X.here hx rfl (hb hby hd) rfl hl q) K
theorem wkP.iinc (pc' : Nat) {j : Nat} {cst : Int} {x : Int32} (y : Int32) (Ls' : Array Slot) (hd : decode B.2.1 pc = .ok (.iinc j cst, 3)) (hl : Ls[j]? = some (.val (.int x))) (hy : x + Int32.ofInt cst = y) (hl' : storeLocals Ls j (.int y) = some Ls') (hp : pc + 3 = pc') (K : wkP l Z B R hs w0 Q ws h k n pc' Ls' st) : wkP l Z B R hs w0 Q ws h k n pc Ls st := by
  subst hp hy; exact .pure (fun p e s m args below meth c vm0 T locs hx hby X t q => XS.iinc X.here hx rfl (hb hby hd) hl hl' q) K
theorem wkP.dup (pc' : Nat) {x : Value} (hd : decode B.2.1 pc = .ok (.dup, 1)) (hc : x.category = 1) (hp : pc + 1 = pc') (K : wkP l Z B R hs w0 Q ws h k n pc' Ls (x :: x :: st)) : wkP l Z B R hs w0 Q ws h k n pc Ls (x :: st) := by
  subst hp; exact .pure (fun p e s m args below meth c vm0 T locs hx hby X t q => XS.dup X.here hx rfl (hb hby hd) rfl hc q) K
theorem wkP.dupX1 (pc' : Nat) {x y : Value} (hd : decode B.2.1 pc = .ok (.dup_x1, 1)) (hc : x.category = 1) (hc' : y.category = 1) (hp : pc + 1 = pc') (K : wkP l Z B R hs w0 Q ws h k n pc' Ls (x :: y :: x :: st)) : wkP l Z B R hs w0 Q ws h k n pc Ls (x :: y :: st) := by
  subst hp; exact .pure (fun p e s m args below meth c vm0 T locs hx hby X t q => XS.dupX1 X.here hx rfl (hb hby hd) rfl hc hc' q) K
theorem wkP.pop (pc' : Nat) {x : Value} (hd : decode B.2.1 pc = .ok (.pop, 1)) (hc : x.category = 1) (hp : pc + 1 = pc') (K : wkP l Z B R hs w0 Q ws h k n pc' Ls st) : wkP l Z B R hs w0 Q ws h k n pc Ls (x :: st) := by
  subst hp; exact .pure (fun p e s m args below meth c vm0 T locs hx hby X t q => XS.pop X.here hx rfl (hb hby hd) rfl hc q) K
theorem wkP.iadd (pc' : Nat) {x y : Int32} (v : Int32) (hd : decode B.2.1 pc = .ok (.iadd, 1)) (hv : x + y = v) (hp : pc + 1 = pc') (K : wkP l Z B R hs w0 Q ws h k n pc' Ls (.int v :: st)) : wkP l Z B R hs w0 Q ws h k n pc Ls (.int y :: .int x :: st) := by
  subst hp hv; exact .pure (fun p e s m args below meth c vm0 T locs hx hby X t q => XS.iadd X.here hx rfl (hb hby hd) rfl q) K
theorem wkP.isub (pc' : Nat) {x y : Int32} (v : Int32) (hd : decode B.2.1 pc = .ok (.isub, 1)) (hv : x - y = v) (hp : pc + 1 = pc') (K : wkP l Z B R hs w0 Q ws h k n pc' Ls (.int v :: st)) : wkP l Z B R hs w0 Q ws h k n pc Ls (.int y :: .int x :: st) := by
  subst hp hv; exact .pure (fun p e s m args below meth c vm0 T locs hx hby X t q => XS.isub X.here hx rfl (hb hby hd) rfl q) K
theorem wkP.imul (pc' : Nat) {x y : Int32} (v : Int32) (hd : decode B.2.1 pc = .ok (.imul, 1)) (hv : x * y = v) (hp : pc + 1 = pc') (K : wkP l Z B R hs w0 Q ws h k n pc' Ls (.int v :: st)) : wkP l Z B R hs w0 Q ws h k n pc Ls (.int y :: .int x :: st) := by
  subst hp hv; exact .pure (fun p e s m args below meth c vm0 T locs hx hby X t q => XS.imul X.here hx rfl (hb hby hd) rfl q) K
theorem wkP.idiv (pc' : Nat) {x y : Int32} (v : Int32) (hd : decode B.2.1 pc = .ok (.idiv, 1)) (hy : y ≠ 0) (hv : x / y = v) (hp : pc + 1 = pc') (K : wkP l Z B R hs w0 Q ws h k n pc' Ls (.int v :: st)) : wkP l Z B R hs w0 Q ws h k n pc Ls (.int y :: .int x :: st) := by
  subst hp hv; exact .pure (fun p e s m args below meth c vm0 T locs hx hby X t q => XS.idiv X.here hx rfl (hb hby hd) rfl hy q) K
theorem wkP.irem (pc' : Nat) {x y : Int32} (v : Int32) (hd : decode B.2.1 pc = .ok (.irem, 1)) (hy : y ≠ 0) (hv : x % y = v) (hp : pc + 1 = pc') (K : wkP l Z B R hs w0 Q ws h k n pc' Ls (.int v :: st)) : wkP l Z B R hs w0 Q ws h k n pc Ls (.int y :: .int x :: st) := by
  subst hp hv; exact .pure (fun p e s m args below meth c vm0 T locs hx hby X t q => iremM X hx rfl (hb hby hd) rfl hy q) K
theorem wkP.iand (pc' : Nat) {x y : Int32} (v : Int32) (hd : decode B.2.1 pc = .ok (.iand, 1)) (hv : x &&& y = v) (hp : pc + 1 = pc') (K : wkP l Z B R hs w0 Q ws h k n pc' Ls (.int v :: st)) : wkP l Z B R hs w0 Q ws h k n pc Ls (.int y :: .int x :: st) := by
  subst hp hv; exact .pure (fun p e s m args below meth c vm0 T locs hx hby X t q => XS.iand X.here hx rfl (hb hby hd) rfl q) K
theorem wkP.ior (pc' : Nat) {x y : Int32} (v : Int32) (hd : decode B.2.1 pc = .ok (.ior, 1)) (hv : x ||| y = v) (hp : pc + 1 = pc') (K : wkP l Z B R hs w0 Q ws h k n pc' Ls (.int v :: st)) : wkP l Z B R hs w0 Q ws h k n pc Ls (.int y :: .int x :: st) := by
  subst hp hv; exact .pure (fun p e s m args below meth c vm0 T locs hx hby X t q => XS.ior X.here hx rfl (hb hby hd) rfl q) K
theorem wkP.ishl (pc' : Nat) {x y : Int32} (v : Int32) (hd : decode B.2.1 pc = .ok (.ishl, 1)) (hv : x <<< (y &&& 31) = v) (hp : pc + 1 = pc') (K : wkP l Z B R hs w0 Q ws h k n pc' Ls (.int v :: st)) : wkP l Z B R hs w0 Q ws h k n pc Ls (.int y :: .int x :: st) := by
  subst hp hv; exact .pure (fun p e s m args below meth c vm0 T locs hx hby X t q => XS.ishl X.here hx rfl (hb hby hd) rfl q) K
theorem wkP.ishr (pc' : Nat) {x y : Int32} (v : Int32) (hd : decode B.2.1 pc = .ok (.ishr, 1)) (hv : x >>> (y &&& 31) = v) (hp : pc + 1 = pc') (K : wkP l Z B R hs w0 Q ws h k n pc' Ls (.int v :: st)) : wkP l Z B R hs w0 Q ws h k n pc Ls (.int y :: .int x :: st) := by
  subst hp hv; exact .pure (fun p e s m args below meth c vm0 T locs hx hby X t q => XS.ishr X.here hx rfl (hb hby hd) rfl q) K
theorem wkP.iushr (pc' : Nat) {x y : Int32} (v : Int32) (hd : decode B.2.1 pc = .ok (.iushr, 1)) (hv : (x.toUInt32 >>> (y &&& 31).toUInt32).toInt32 = v) (hp : pc + 1 = pc') (K : wkP l Z B R hs w0 Q ws h k n pc' Ls (.int v :: st)) : wkP l Z B R hs w0 Q ws h k n pc Ls (.int y :: .int x :: st) := by
  subst hp hv; exact .pure (fun p e s m args below meth c vm0 T locs hx hby X t q => XS.iushr X.here hx rfl (hb hby hd) rfl q) K
theorem wkP.i2b (pc' : Nat) {x : Int32} (v : Int32) (hd : decode B.2.1 pc = .ok (.i2b, 1)) (hv : x.toInt8.toInt32 = v) (hp : pc + 1 = pc') (K : wkP l Z B R hs w0 Q ws h k n pc' Ls (.int v :: st)) : wkP l Z B R hs w0 Q ws h k n pc Ls (.int x :: st) := by
  subst hp hv; exact .pure (fun p e s m args below meth c vm0 T locs hx hby X t q => XS.i2b X.here hx rfl (hb hby hd) rfl q) K
theorem wkP.i2c (pc' : Nat) {x : Int32} (v : Int32) (hd : decode B.2.1 pc = .ok (.i2c, 1)) (hv : x.toUInt32.toUInt16.toUInt32.toInt32 = v) (hp : pc + 1 = pc') (K : wkP l Z B R hs w0 Q ws h k n pc' Ls (.int v :: st)) : wkP l Z B R hs w0 Q ws h k n pc Ls (.int x :: st) := by
  subst hp hv; exact .pure (fun p e s m args below meth c vm0 T locs hx hby X t q => XS.i2c X.here hx rfl (hb hby hd) rfl q) K
theorem wkP.i2l (pc' : Nat) {x : Int32} (v : Int64) (hd : decode B.2.1 pc = .ok (.i2l, 1)) (hv : x.toInt64 = v) (hp : pc + 1 = pc') (K : wkP l Z B R hs w0 Q ws h k n pc' Ls (.long v :: st)) : wkP l Z B R hs w0 Q ws h k n pc Ls (.int x :: st) := by
  subst hp hv; exact .pure (fun p e s m args below meth c vm0 T locs hx hby X t q => XS.i2l X.here hx rfl (hb hby hd) rfl q) K
theorem wkP.l2i (pc' : Nat) {x : Int64} (v : Int32) (hd : decode B.2.1 pc = .ok (.l2i, 1)) (hv : x.toInt32 = v) (hp : pc + 1 = pc') (K : wkP l Z B R hs w0 Q ws h k n pc' Ls (.int v :: st)) : wkP l Z B R hs w0 Q ws h k n pc Ls (.long x :: st) := by
  subst hp hv; exact .pure (fun p e s m args below meth c vm0 T locs hx hby X t q => XS.l2i X.here hx rfl (hb hby hd) rfl q) K
theorem wkP.lmul (pc' : Nat) {x y : Int64} (v : Int64) (hd : decode B.2.1 pc = .ok (.lmul, 1)) (hv : x * y = v) (hp : pc + 1 = pc') (K : wkP l Z B R hs w0 Q ws h k n pc' Ls (.long v :: st)) : wkP l Z B R hs w0 Q ws h k n pc Ls (.long y :: .long x :: st) := by
  subst hp hv; exact .pure (fun p e s m args below meth c vm0 T locs hx hby X t q => XS.lmul X.here hx rfl (hb hby hd) rfl q) K
theorem wkP.land (pc' : Nat) {x y : Int64} (v : Int64) (hd : decode B.2.1 pc = .ok (.land, 1)) (hv : x &&& y = v) (hp : pc + 1 = pc') (K : wkP l Z B R hs w0 Q ws h k n pc' Ls (.long v :: st)) : wkP l Z B R hs w0 Q ws h k n pc Ls (.long y :: .long x :: st) := by
  subst hp hv; exact .pure (fun p e s m args below meth c vm0 T locs hx hby X t q => XS.land X.here hx rfl (hb hby hd) rfl q) K
theorem wkP.lushr (pc' : Nat) {x : Int64} {y : Int32} (v : Int64) (hd : decode B.2.1 pc = .ok (.lushr, 1)) (hv : (x.toUInt64 >>> (y &&& 0x3f).toInt64.toUInt64).toInt64 = v) (hp : pc + 1 = pc') (K : wkP l Z B R hs w0 Q ws h k n pc' Ls (.long v :: st)) : wkP l Z B R hs w0 Q ws h k n pc Ls (.int y :: .long x :: st) := by
  subst hp hv; exact .pure (fun p e s m args below meth c vm0 T locs hx hby X t q => XS.lushr X.here hx rfl (hb hby hd) rfl q) K
theorem wkP.goto (pc' : Nat) {o : Int} (hd : decode B.2.1 pc = .ok (.goto o, 3)) (ho : 0 ≤ (pc : Int) + o) (hp : ((pc : Int) + o).toNat = pc') (K : wkP l Z B R hs w0 Q ws h k n pc' Ls st) : wkP l Z B R hs w0 Q ws h k n pc Ls st :=
  .pure (fun p e s m args below meth c vm0 T locs hx hby X t q => XS.goto X.here hx rfl (pc0 := pc) rfl (hb hby hd) ho hp q) K
/-- what a comparison's letters mean -/
abbrev wkC : ClassFile.Cond → Int32 → Int32 → Prop
  | .eq, x, y => x = y
  | .ne, x, y => ¬ x = y
  | .lt, x, y => x < y
  | .ge, x, y => ¬ x < y
  | .gt, x, y => y < x
  | .le, x, y => ¬ y < x
theorem wkC_t {cd : ClassFile.Cond} {x y : Int32} (q : wkC cd x y) : if_icmp.holds cd x y = true := by
  cases cd
  · exact (teq q).1
  · exact (feq q).2
  · exact (tlt q).1
  · exact (flt q).2.1
  · exact (tlt q).2.2.1
  · exact (flt q).2.2.2
theorem wkC_f {cd : ClassFile.Cond} {x y : Int32} (q : ¬ wkC cd x y) : if_icmp.holds cd x y = false := by
  cases cd
  · exact (feq q).1
  · exact (teq (Decidable.not_not.mp q)).2
  · exact (flt q).1
  · exact (tlt (Decidable.not_not.mp q)).2.1
  · exact (flt q).2.2.1
  · exact (tlt (Decidable.not_not.mp q)).2.2.2
theorem wkP.icmpT (pc' : Nat) {cd : ClassFile.Cond} {x y : Int32} {o : Int} (hd : decode B.2.1 pc = .ok (.if_icmp cd o, 3)) (q : wkC cd x y) (ho : 0 ≤ (pc : Int) + o) (hp : ((pc : Int) + o).toNat = pc') (K : wkP l Z B R hs w0 Q ws h k n pc' Ls st) : wkP l Z B R hs w0 Q ws h k n pc Ls (.int y :: .int x :: st) :=
  .pure (fun p e s m args below meth c vm0 T locs hx hby X t r => XS.icmpYes X.here hx rfl (pc0 := pc) rfl (hb hby hd) rfl (wkC_t q) ho hp r) K
theorem wkP.icmpF (pc' : Nat) {cd : ClassFile.Cond} {x y : Int32} {o : Int} (hd : decode B.2.1 pc = .ok (.if_icmp cd o, 3)) (q : ¬ wkC cd x y) (hp : pc + 3 = pc') (K : wkP l Z B R hs w0 Q ws h k n pc' Ls st) : wkP l Z B R hs w0 Q ws h k n pc Ls (.int y :: .int x :: st) := by
  subst hp; exact .pure (fun p e s m args below meth c vm0 T locs hx hby X t r => XS.icmpNo X.here hx rfl (hb hby hd) rfl (wkC_f q) r) K
theorem wkP.ifT (pc' : Nat) {cd : ClassFile.Cond} {x : Int32} {o : Int} (hd : decode B.2.1 pc = .ok (.ifCond cd o, 3)) (q : wkC cd x 0) (ho : 0 ≤ (pc : Int) + o) (hp : ((pc : Int) + o).toNat = pc') (K : wkP l Z B R hs w0 Q ws h k n pc' Ls st) : wkP l Z B R hs w0 Q ws h k n pc Ls (.int x :: st) :=
  .pure (fun p e s m args below meth c vm0 T locs hx hby X t r => XS.ifYes X.here hx rfl (pc0 := pc) rfl (hb hby hd) rfl ((if0 _ _).trans (wkC_t q)) ho hp r) K
theorem wkP.ifF (pc' : Nat) {cd : ClassFile.Cond} {x : Int32} {o : Int} (hd : decode B.2.1 pc = .ok (.ifCond cd o, 3)) (q : ¬ wkC cd x 0) (hp : pc + 3 = pc') (K : wkP l Z B R hs w0 Q ws h k n pc' Ls st) : wkP l Z B R hs w0 Q ws h k n pc Ls (.int x :: st) := by
  subst hp; exact .pure (fun p e s m args below meth c vm0 T locs hx hby X t r => XS.ifNo X.here hx rfl (hb hby hd) rfl ((if0 _ _).trans (wkC_f q)) r) K
theorem wkP.ifnullT (pc' : Nat) {o : Int} (hd : decode B.2.1 pc = .ok (.ifnull o, 3)) (ho : 0 ≤ (pc : Int) + o) (hp : ((pc : Int) + o).toNat = pc') (K : wkP l Z B R hs w0 Q ws h k n pc' Ls st) : wkP l Z B R hs w0 Q ws h k n pc Ls (.null :: st) :=
  .pure (fun p e s m args below meth c vm0 T locs hx hby X t r => XS.ifnullYes X.here hx rfl (pc0 := pc) rfl (hb hby hd) rfl ho hp r) K
theorem wkP.ifnullF (pc' : Nat) {o : Int} {a : Addr} (hd : decode B.2.1 pc = .ok (.ifnull o, 3)) (hp : pc + 3 = pc') (K : wkP l Z B R hs w0 Q ws h k n pc' Ls st) : wkP l Z B R hs w0 Q ws h k n pc Ls (.ref a :: st) := by
  subst hp; exact .pure (fun p e s m args below meth c vm0 T locs hx hby X t r => XS.ifnullNo X.here hx rfl (hb hby hd) rfl r) K
theorem wkP.ifnonnullT (pc' : Nat) {o : Int} {a : Addr} (hd : decode B.2.1 pc = .ok (.ifnonnull o, 3)) (ho : 0 ≤ (pc : Int) + o) (hp : ((pc : Int) + o).toNat = pc') (K : wkP l Z B R hs w0 Q ws h k n pc' Ls st) : wkP l Z B R hs w0 Q ws h k n pc Ls (.ref a :: st) :=
  .pure (fun p e s m args below meth c vm0 T locs hx hby X t r => XS.ifnonnullYes X.here hx rfl (pc0 := pc) rfl (hb hby hd) rfl ho hp r) K
theorem wkP.ifnonnullF (pc' : Nat) {o : Int} (hd : decode B.2.1 pc = .ok (.ifnonnull o, 3)) (hp : pc + 3 = pc') (K : wkP l Z B R hs w0 Q ws h k n pc' Ls st) : wkP l Z B R hs w0 Q ws h k n pc Ls (.null :: st) := by
  subst hp; exact .pure (fun p e s m args below meth c vm0 T locs hx hby X t r => XS.ifnonnullNo X.here hx rfl (hb hby hd) rfl r) K
theorem wkP.acmp (pc' : Nat) {cd : ACond} {x y : Value} {o : Int} (same : Bool) (hd : decode B.2.1 pc = .ok (.if_acmp cd o, 3)) (h1 : x.isRef = true) (h2 : y.isRef = true) (hq : decide (x = y) = same) (ho : 0 ≤ (pc : Int) + o) (hp : pc' = if acV cd same = true then ((pc : Int) + o).toNat else pc + 3) (K : wkP l Z B R hs w0 Q ws h k n pc' Ls st) : wkP l Z B R hs w0 Q ws h k n pc Ls (y :: x :: st) :=
  .pure (fun p e s m args below meth c vm0 T locs hx hby X t r => RoadKit.acmp X hx rfl h1 h2 (pc0 := pc) rfl (hb hby hd) rfl hq ho hp r) K
end Rules

section Facts
variable {Z : State} {h h' : Heap} {a b : Addr} {ty ty' : FieldType} {xs : List Int32} {ws : List Addr} {a0 : Array Value} {C D O n d : String} {v w : Value}
theorem nn0 {x : Nat} : x ∉ ([] : List Nat) := by simp
theorem nn1 {x y : Nat} (q : x ≠ y) : x ∉ [y] := by simpa using q
theorem nnS {x y : Nat} {L : List Nat} (q : x ≠ y) (r : x ∉ L) : x ∉ y :: L := by simpa using ⟨q, r⟩
/-- the array at a holds just these ints -/
def Ia (Z : State) (h : Heap) (a : Addr) (ty : FieldType) (xs : List Int32) : Prop := ∃ c : Cell, Arr Z h a c ty ∧ c.slots = (xs.map Value.int).toArray ∧ (∀ x ∈ xs, fits ty (.int x) = true) ∧ xs.length < 2 ^ 31
theorem exaLt (E : Exa Z h a C) : h.size > a := E.lt
theorem Ia.lt (F : Ia Z h a ty xs) : h.size > a := by obtain ⟨c, A, -⟩ := F; exact A.lt
theorem Ia.keep (F : Ia Z h a ty xs) (K : Keep h h' ws) (q : a ∉ ws) : Ia Z h' a ty xs := by
  obtain ⟨c, A, r⟩ := F; exact ⟨c, ⟨K.2.1 _ _ A.1 q, A.2⟩, r⟩
theorem Ia.len (F : Ia Z h a ty xs) : xs.length < 2 ^ 31 := by obtain ⟨c, -, -, -, r⟩ := F; exact r
theorem Ia.fit (F : Ia Z h a ty xs) : ∀ x ∈ xs, fits ty (.int x) = true := by obtain ⟨c, -, -, r, -⟩ := F; exact r
theorem Ia.of_arv {k : ClassId} {z : Int32} {vs : List Value} (F : Arv Z h a k ty z vs v) (e : vs = xs.map Value.int) (hl : z.toNatClampNeg = vs.length) : Ia Z h a ty xs := by
  obtain ⟨c, A, -, hs, hz, H, G⟩ := F
  subst e
  have hsz : c.slots.size = xs.length := by rw [hs, hl]; simp
  have hb := (back32 hz).2
  refine ⟨c, A, ?_, fun x hx => ?_, by rw [← hsz, hs]; exact hb⟩
  · refine Array.ext (by simpa using hsz) fun i h1 h2 => ?_
    have q := H i h1
    rw [Array.getElem?_eq_getElem h1] at q
    have h3 : i < xs.length := by omega
    simp [List.getD_eq_getElem?_getD, h3] at q ⊢
    exact q
  · obtain ⟨i, hi, rfl⟩ := List.getElem_of_mem hx
    have q := G i (by omega)
    simpa [List.getD_eq_getElem?_getD, hi] using q
theorem Ia.arv (F : Ia Z h a ty xs) : ∃ k, Arv Z h a k ty (Int32.ofNat xs.length) (xs.map Value.int) (.int 0) := by
  obtain ⟨c, A, e, f, r⟩ := F
  have q : (Int32.ofNat xs.length).toNatClampNeg = xs.length := clamp_of rfl r
  have sz : c.slots.size = xs.length := by rw [e]; simp
  refine ⟨c.cls, c, A, rfl, by rw [q, sz], ?_, fun i hi => ?_, fun i hi => ?_⟩
  · have := toInt_of (n := Int32.ofNat xs.length) rfl r
    rw [Int32.lt_iff_toInt_lt, this]; simp
  · rw [e]; simp [List.getD_eq_getElem?_getD, show i < xs.length by omega]
  · have h3 : i < xs.length := by omega
    simpa [List.getD_eq_getElem?_getD, h3] using f _ (List.getElem_mem h3)
theorem Ia.ne (F : Ia Z h a ty xs) {ys : List Int32} (G : Ia Z h b ty' ys) (q : ty ≠ ty') : a ≠ b := fun e => by
  subst e
  obtain ⟨c, A, -⟩ := F
  obtain ⟨c', A', -⟩ := G
  cases A.1.symm.trans A'.1
  obtain ⟨-, k1, q1, c1, r1⟩ := A.2.1
  obtain ⟨-, k2, q2, c2, r2⟩ := A'.2.1
  cases q1.symm.trans q2
  rw [r1] at r2
  injection r2 with _ r3
  exact q r3
theorem exaNeIa {kk : Nat} (E : Exa Z h a C) (wi : (Cond.instantiable C kk).before a0 Z = true) (G : Ia Z h b ty xs) : a ≠ b := by
  obtain ⟨c, A, -⟩ := G
  exact ne_arr E wi A
end Facts
section Rules2
variable {l : Launch} {Z : State} {B : wkB} {R : Room} {hs : Heap} {w0 : List Addr} {Q : Option Value → Heap → List Addr → Prop} {ws : List Addr} {h : Heap} {k n pc : Nat} {Ls : Array Slot} {st : List Value} {a0 : Array Value}
variable {p : Program} {e : Env} {s : State} {m : MethodId} {args : Array Value} {below : List Frame} {meth : Method} {c : Code} {vm0 : Vm} {k0 : Nat} {T T' : State} {locs : List Loc} {h' : Heap} {k' n' : Nat} {a : Addr} {sl : Nat} {v : Value}
theorem keepExt {hh h1 : Heap} (E : Ext hh h1) : Keep hh h1 [] := (Keep.refl _ _).ext E
theorem wkAt.same (A : wkAt p l e R s m args below meth c Z B hs w0 ws h k n vm0 k0 T locs) (X' : Stand p l e R (s.setVm vm0) m args below meth c T' locs k n) (e' : T'.heap = h) : wkAt p l e R s m args below meth c Z B hs w0 ws h k n vm0 k0 T' locs :=
  ⟨A.1, X', e', A.2.2.2⟩
theorem wkAt.ext (A : wkAt p l e R s m args below meth c Z B hs w0 ws h k n vm0 k0 T locs) (X' : Stand p l e R (s.setVm vm0) m args below meth c T' locs k' n') (e' : T'.heap = h') (E : Ext h h') : wkAt p l e R s m args below meth c Z B hs w0 ws h' k' n' vm0 k0 T' locs := by
  obtain ⟨a1, -, -, ⟨a4, a5⟩, a6, a7, a8, a9, a10, a11, a12⟩ := A
  exact ⟨a1, X', e', ⟨a4, Nat.le_trans a5 E.1⟩, a6, a7, a8.trans (CHr.ext E a8.1), a9, a10.ext E, a11.ext E, fun x hx => ⟨(a12 x hx).1, Nat.lt_of_lt_of_le (a12 x hx).2.1 E.1, Safe.ext E a8.1 (a12 x hx).2.2.1, (a12 x hx).2.2.2⟩⟩
theorem wkAt.push (A : wkAt p l e R s m args below meth c Z B hs w0 ws h k n vm0 k0 T locs) (X' : Stand p l e R (s.setVm vm0) m args below meth c T' locs k' n') (e' : T'.heap = h') (E : Ext h h') (ha : h.size ≤ a) (hb : a < h'.size) : wkAt p l e R s m args below meth c Z B hs w0 (a :: ws) h' k' n' vm0 k0 T' locs := by
  have q := A.ext X' e' E
  obtain ⟨a1, -, -, ⟨a4, a5⟩, a6, a7, a8, a9, a10, a11, a12⟩ := A
  obtain ⟨b1, b2, b3, b4, b5, b6, b7, b8, b9, b10, b11⟩ := q
  refine ⟨b1, b2, b3, b4, b5, b6, b7, b8, b9, b10, fun x hx => ?_⟩
  rcases List.mem_cons.mp hx with rfl | hx
  · exact ⟨Nat.le_trans a10.2.1 ha, hb, Safe.ext E a8.1 (Safe.new ha), Or.inr (Nat.le_trans a11.1 ha)⟩
  · exact b11 x hx
theorem wkAt.wr (A : wkAt p l e R s m args below meth c Z B hs w0 ws h k n vm0 k0 T locs) (X' : Stand p l e R (s.setVm vm0) m args below meth c T' (locs ++ [⟨a, sl⟩]) k n) (e' : T'.heap = h') (W : Wr h h' a sl v) (ha : a ∈ ws) : wkAt p l e R s m args below meth c Z B hs w0 ws h' k n vm0 k0 T' (locs ++ [⟨a, sl⟩]) := by
  obtain ⟨a1, -, -, ⟨a4, a5⟩, a6, a7, a8, a9, a10, a11, a12⟩ := A
  obtain ⟨s1, s2, s3, s4⟩ := a12 a ha
  have hsz := W.size
  exact ⟨a1, X', e', ⟨a4, by rw [hsz]; exact a5⟩, a6, a7, a8.trans (CHr.wr W s3 a8.1), Fr.app a9 (fun y hy => by simp at hy; rw [hy]; exact s1), a10.wr W s1, a11.wr W s4, fun x hx => ⟨(a12 x hx).1, by rw [hsz]; exact (a12 x hx).2.1, Safe.wr W s3 a8.1 (a12 x hx).2.2.1, (a12 x hx).2.2.2⟩⟩
theorem wkP.more {k1 n1 : Nat} (hk : k ≤ k1) (hn : n ≤ n1) (K : wkP l Z B R hs w0 Q ws h k1 n1 pc Ls st) : wkP l Z B R hs w0 Q ws h k n pc Ls st := by
  intro p e s m args below meth c vm0 k0 T locs A
  exact K p e s m args below meth c vm0 k0 T locs ⟨A.1, A.2.1.more hk hn, A.2.2⟩
theorem wkP.sub {ws1 : List Addr} (q : ∀ x ∈ ws1, x ∈ ws) (K : wkP l Z B R hs w0 Q ws1 h k n pc Ls st) : wkP l Z B R hs w0 Q ws h k n pc Ls st := by
  intro p e s m args below meth c vm0 k0 T locs A
  obtain ⟨b1, b2, b3, b4, b5, b6, b7, b8, b9, b10, b11⟩ := A
  exact K p e s m args below meth c vm0 k0 T locs ⟨b1, b2, b3, b4, b5, b6, b7, b8, b9, b10, fun x hx => b11 x (q x hx)⟩
/-- what is known wherever a walk stands -/
theorem wkP.know (K : (∀ x ∈ ws, Z.heap.size ≤ x ∧ x < h.size) → Z.heap.size ≤ h.size → Keep hs h w0 → wkP l Z B R hs w0 Q ws h k n pc Ls st) : wkP l Z B R hs w0 Q ws h k n pc Ls st := by
  intro p e s m args below meth c vm0 k0 T locs A
  obtain ⟨b1, b2, b3, b4, b5, b6, b7, b8, b9, b10, b11⟩ := A
  exact K (fun x hx => ⟨(b11 x hx).1, (b11 x hx).2.1⟩) b9.2.1 b10 p e s m args below meth c vm0 k0 T locs ⟨b1, b2, b3, b4, b5, b6, b7, b8, b9, b10, b11⟩
theorem wkP.getF (pc' : Nat) {index : Nat} {R0 O nm d : String} (w : (Cond.fieldLink B.1.cls index R0 nm d).before a0 Z = true) (F : Fld Z h a O nm d v) (via : Via Z R0 O nm d) (hd : decode B.2.1 pc = .ok (.getfield index, 3)) (hp : pc + 3 = pc') (K : wkP l Z B R hs w0 Q ws h k n pc' Ls (v :: st)) : wkP l Z B R hs w0 Q ws h k n pc Ls (.ref a :: st) := by
  subst hp
  intro p e s m args below meth c vm0 k0 T locs A
  obtain ⟨T', X', e', stp⟩ := RoadKit.getF A.2.1 A.1.1 A.2.2.2.2.1 A.2.2.2.2.2.1 (host := "") (Or.inl w) via A.2.2.1 F (g := mkF m pc Ls (.ref a :: st)) rfl rfl (hb A.1.2.1 hd)
  obtain ⟨U, o, q, r⟩ := K p e s m args below meth c vm0 k0 T' locs (A.same X' e')
  exact ⟨U, o, stp _ q, r⟩
theorem wkP.getS (pc' : Nat) {index : Nat} {R0 O nm d : String} (w : (Cond.fieldLink B.1.cls index R0 nm d).before a0 Z = true) (F : Sta Z Z.heap O nm d v) (via : Via Z R0 O nm d) (hd : decode B.2.1 pc = .ok (.getstatic index, 3)) (hp : pc + 3 = pc') (K : wkP l Z B R hs w0 Q ws h k n pc' Ls (v :: st)) : wkP l Z B R hs w0 Q ws h k n pc Ls st := by
  subst hp
  intro p e s m args below meth c vm0 k0 T locs A
  obtain ⟨T', X', e', stp⟩ := RoadKit.getS A.2.1 A.1.1 A.2.2.2.2.1 A.2.2.2.2.2.1 (host := "") w via A.2.2.1 (F.ext A.2.2.2.2.2.2.2.2.1.2) (g := mkF m pc Ls st) rfl (hb A.1.2.1 hd)
  obtain ⟨U, o, q, r⟩ := K p e s m args below meth c vm0 k0 T' locs (A.same X' e')
  exact ⟨U, o, stp _ q, r⟩
theorem wkP.castY (pc' : Nat) {index : Nat} {C : String} (w : (Cond.classLink B.1.cls index C).before a0 Z = true) (F : Ins Z h a C true) (hd : decode B.2.1 pc = .ok (.checkcast index, 3)) (hp : pc + 3 = pc') (K : wkP l Z B R hs w0 Q ws h k n pc' Ls (.ref a :: st)) : wkP l Z B R hs w0 Q ws h k n pc Ls (.ref a :: st) := by
  subst hp
  intro p e s m args below meth c vm0 k0 T locs A
  obtain ⟨T', X', e', stp⟩ := RoadKit.castY A.2.1 A.1.1 A.2.2.2.2.1 A.2.2.2.2.2.1 w A.2.2.1 F (g := mkF m pc Ls (.ref a :: st)) rfl rfl (hb A.1.2.1 hd)
  obtain ⟨U, o, q, r⟩ := K p e s m args below meth c vm0 k0 T' locs (A.same X' e')
  exact ⟨U, o, stp _ q, r⟩
theorem wkP.instY (pc' : Nat) {index : Nat} {C : String} (w : (Cond.classLink B.1.cls index C).before a0 Z = true) (F : Ins Z h a C true) (hd : decode B.2.1 pc = .ok (.instanceof index, 3)) (hp : pc + 3 = pc') (K : wkP l Z B R hs w0 Q ws h k n pc' Ls (.int 1 :: st)) : wkP l Z B R hs w0 Q ws h k n pc Ls (.ref a :: st) := by
  subst hp
  intro p e s m args below meth c vm0 k0 T locs A
  obtain ⟨T', X', e', stp⟩ := RoadKit.instY A.2.1 A.1.1 A.2.2.2.2.1 A.2.2.2.2.2.1 w A.2.2.1 F (g := mkF m pc Ls (.ref a :: st)) rfl rfl (hb A.1.2.1 hd)
  obtain ⟨U, o, q, r⟩ := K p e s m args below meth c vm0 k0 T' locs (A.same X' e')
  exact ⟨U, o, stp _ q, r⟩
theorem wkP.ldcI (pc' : Nat) {index : Nat} {v : Int32} (w : (Cond.constant B.1.cls index v).before a0 Z = true) (hd : decode B.2.1 pc = .ok (.ldc index, 2)) (hp : pc + 2 = pc') (K : wkP l Z B R hs w0 Q ws h k n pc' Ls (.int v :: st)) : wkP l Z B R hs w0 Q ws h k n pc Ls st := by
  subst hp
  intro p e s m args below meth c vm0 k0 T locs A
  obtain ⟨U, o, q, r⟩ := K p e s m args below meth c vm0 k0 T locs A
  exact ⟨U, o, A.2.1.ldcInt A.1.1 (own := B.1.cls) A.2.2.2.2.2.1 (mvT (s := s.setVm vm0) A.2.2.2.2.1 w) (g := mkF m pc Ls st) rfl (hb A.1.2.1 hd) _ q, r⟩
theorem wkP.ldcL (pc' : Nat) {index : Nat} {v : Int64} (w : (Cond.constantLong B.1.cls index v).before a0 Z = true) (hd : decode B.2.1 pc = .ok (.ldc2_w index, 3)) (hp : pc + 3 = pc') (K : wkP l Z B R hs w0 Q ws h k n pc' Ls (.long v :: st)) : wkP l Z B R hs w0 Q ws h k n pc Ls st := by
  subst hp
  intro p e s m args below meth c vm0 k0 T locs A
  obtain ⟨U, o, q, r⟩ := K p e s m args below meth c vm0 k0 T locs A
  exact ⟨U, o, A.2.1.ldc2Long A.1.1 (own := B.1.cls) A.2.2.2.2.2.1 (mvT (s := s.setVm vm0) A.2.2.2.2.1 w) (g := mkF m pc Ls st) rfl (hb A.1.2.1 hd) _ q, r⟩
theorem wkP.instNull (pc' : Nat) {index : Nat} (hd : decode B.2.1 pc = .ok (.instanceof index, 3)) (hp : pc + 3 = pc') (K : wkP l Z B R hs w0 Q ws h k n pc' Ls (.int 0 :: st)) : wkP l Z B R hs w0 Q ws h k n pc Ls (.null :: st) := by
  subst hp; exact .pure (fun p e s m args below meth c vm0 T locs hx hby X t q => X.instanceofNull hx (g := mkF m pc Ls (.null :: st)) rfl rfl (hb hby hd) t q) K
theorem wkP.instNo (pc' : Nat) {index : Nat} {C D : String} (w : (Cond.classLink B.1.cls index C).before a0 Z = true) (E : Exa Z h a D) (F : ∃ c t, Z.vm.findClass D = some c ∧ Z.vm.findClass C = some t ∧ Z.vm.assignable c t = false) (hd : decode B.2.1 pc = .ok (.instanceof index, 3)) (hp : pc + 3 = pc') (K : wkP l Z B R hs w0 Q ws h k n pc' Ls (.int 0 :: st)) : wkP l Z B R hs w0 Q ws h k n pc Ls (.ref a :: st) := by
  subst hp
  intro p e s m args below meth c vm0 k0 T locs A
  obtain ⟨T', X', e', stp⟩ := RoadKit.instNo A.2.1 A.1.1 A.2.2.2.2.1 A.2.2.2.2.2.1 w A.2.2.1 E F (g := mkF m pc Ls (.ref a :: st)) rfl rfl (hb A.1.2.1 hd)
  obtain ⟨U, o, q, r⟩ := K p e s m args below meth c vm0 k0 T' locs (A.same X' e')
  exact ⟨U, o, stp _ q, r⟩
/-- String's one superclass is Object: it is no class that is neither -/
theorem notOf {K : String} {kk : Nat} (w1 : (Cond.superclass "java/lang/String" "java/lang/Object").before a0 Z = true) (w2 : (Cond.noSuperclass "java/lang/Object").before a0 Z = true) (w3 : (Cond.instantiable K kk).before a0 Z = true) (n1 : "java/lang/String" ≠ K) (n2 : "java/lang/Object" ≠ K) : ∃ c t, Z.vm.findClass "java/lang/String" = some c ∧ Z.vm.findClass K = some t ∧ Z.vm.assignable c t = false := by
  obtain ⟨t, kt, g0, g2, g3, g4, -⟩ := Cond.instantiable_spec w3
  obtain ⟨c, h0⟩ := found_sup w1
  obtain ⟨p, k, kp, h1, h2, h3, h4, h5, -, h7⟩ := Cond.superclass_spec h0 w1
  obtain ⟨q, kq, q1, q2, q3, -, -⟩ := Cond.noSuperclass_spec w2
  have e1 := h1.symm.trans q1
  cases e1
  have ne1 := ids_ne h0 g0 n1
  have ne2 := ids_ne h1 g0 n2
  have hi : kt.isInterface = false := by
    cases hq : kt.isInterface
    · rfl
    · rw [hq] at g4; simp at g4
  have ns : ∀ fuel, Z.vm.isSubclassAux fuel c t = false := fun fuel => by
    cases fuel with
    | zero => rfl
    | succ f =>
      cases f with
      | zero => simp [Vm.isSubclassAux, ne1, h2, h4]
      | succ f => simp [Vm.isSubclassAux, ne1, ne2, h2, h4, q2, q3]
  refine ⟨c, t, h0, g0, ?_⟩
  show Z.vm.assignableAux (255 + 1) c t = false
  simp [Vm.assignableAux, ne1, h2, g2, h5, g3, hi, Vm.isSubclass, ns]
theorem wkP.newO (pc' : Nat) {index nn : Nat} {C : String} (w : (Cond.classLink B.1.cls index C).before a0 Z = true) (wi : (Cond.instantiable C nn).before a0 Z = true) (wz : (Cond.initialized C).before a0 Z = true) (hd : decode B.2.1 pc = .ok (.new index, 3)) (hc : k + 1 ≤ R.cells) (hl : n + nn ≤ R.slots) (hp : pc + 3 = pc')
    (K : ∀ (h' : Heap) (a : Addr), h.size ≤ a → h'.size > a → Keep h h' [] → Exa Z h' a C → (∀ {O nm d : String} {ty : FieldType}, Laid Z a0 C O nm d → parseFieldDescriptor d = some ty → Fld Z h' a O nm d (defaultValue ty)) → Unt h' a → wkP l Z B R hs w0 Q (a :: ws) h' (k + 1) (n + nn) pc' Ls (.ref a :: st)) : wkP l Z B R hs w0 Q ws h k n pc Ls st := by
  subst hp
  intro p e s m args below meth c vm0 k0 T locs A
  obtain ⟨T', h', X', e', E', A', D', N', stp⟩ := RoadKit.newO A.2.1 A.1.1 A.2.2.2.2.1 A.2.2.2.2.2.1 w wi wz A.2.2.1 (g := mkF m pc Ls st) rfl (hb A.1.2.1 hd) hc hl
  obtain ⟨U, o, q, r⟩ := K h' h.size (Nat.le_refl _) A'.lt (keepExt E') A' (fun L q => D' L q) N' p e s m args below meth c vm0 k0 T' locs (A.push X' e' E' (Nat.le_refl _) A'.lt)
  exact ⟨U, o, stp _ q, r⟩
theorem nat_of_toInt {z : Int32} {N : Nat} (hz : z.toInt = (N : Int)) : ¬ z < 0 ∧ z.toNatClampNeg = N := by
  constructor
  · rw [Int32.lt_iff_toInt_lt, hz]; simp
  · simp [Int32.toNatClampNeg, hz]
theorem wkP.newP (pc' : Nat) {aty : ArrayType} (ty : FieldType) (N cap : Nat) {z : Int32} (w : (Cond.arrayClass ty).before a0 Z = true) (hty : newarray.typeOf aty = ty) (hdv : defaultValue ty = .int 0) (hf : fits ty (.int 0) = true) (hd : decode B.2.1 pc = .ok (.newarray aty, 2)) (hz : z.toInt = (N : Int)) (hcap : N ≤ cap) (hb8 : cap * 8 ≤ 536870912) (hc : k + 1 ≤ R.cells) (hl : n + cap ≤ R.slots) (hp : pc + 2 = pc')
    (K : ∀ (h' : Heap) (a : Addr), h.size ≤ a → h'.size > a → Keep h h' [] → Ia Z h' a ty (List.replicate N 0) → wkP l Z B R hs w0 Q (a :: ws) h' (k + 1) (n + cap) pc' Ls (.ref a :: st)) : wkP l Z B R hs w0 Q ws h k n pc Ls (.int z :: st) := by
  subst hp hty
  obtain ⟨z1, z2⟩ := nat_of_toInt hz
  intro p e s m args below meth c vm0 k0 T locs A
  obtain ⟨T', h', cA, X', e', E', A', stp⟩ := RoadKit.newP A.2.1 A.1.1 A.2.2.2.2.1 w A.2.2.1 (g := mkF m pc Ls (.int z :: st)) rfl (hb A.1.2.1 hd) rfl z1 (cap := cap) (by omega) hb8 hc hl
  have F : Ia Z h' h.size (newarray.typeOf aty) (List.replicate N 0) := ⟨_, A', by simp [newA, z2, hdv], fun x hx => by rw [List.eq_of_mem_replicate hx]; exact hf, by simp; omega⟩
  obtain ⟨U, o, q, r⟩ := K h' h.size (Nat.le_refl _) A'.lt (keepExt E') F p e s m args below meth c vm0 k0 T' locs (A.push X' e' E' (Nat.le_refl _) A'.lt)
  exact ⟨U, o, stp _ q, r⟩
theorem wkP.putF (pc' : Nat) {index kk : Nat} {O nm d C : String} {ty : FieldType} {old : Value} (w : (Cond.fieldLink B.1.cls index O nm d).before a0 Z = true) (F : Fld Z h a O nm d old) (E : Exa Z h a C) (L : (Cond.lays C O nm d).before a0 Z = true ∨ ((Cond.laysFinal C O nm d).before a0 Z = true ∧ B.1.cls = O ∧ B.1.name = "<init>")) (wi : (Cond.instantiable C kk).before a0 Z = true)
    (hty : parseFieldDescriptor d = some ty) (hn : narrow ty v = v) (hf : fits ty v = true) (hd : decode B.2.1 pc = .ok (.putfield index, 3)) (ha : a ∈ ws) (hp : pc + 3 = pc')
    (K : ∀ h' : Heap, Keep h h' [a] → Wr h h' a (RoadKit.slotOf Z O nm d) v → wkP l Z B R hs w0 Q ws h' k n pc' Ls st) : wkP l Z B R hs w0 Q ws h k n pc Ls (v :: .ref a :: st) := by
  subst hp
  intro p e s m args below meth c vm0 k0 T locs A
  obtain ⟨T', h', X', e', W', stp⟩ := RoadKit.putF A.2.1 A.1.1 A.2.2.2.2.1 A.2.2.2.2.2.1 (host := "") (Or.inl w) Via.refl A.2.2.1 F E (L.imp id fun q => ⟨q.1, q.2.1, A.1.2.2.2.2.2.trans q.2.2⟩) wi hty hn hf (g := mkF m pc Ls (v :: .ref a :: st)) rfl rfl (hb A.1.2.1 hd)
  obtain ⟨U, o, q, r⟩ := K h' (Keep.of_wr W') W' p e s m args below meth c vm0 k0 T' _ (A.wr X' e' W' ha)
  exact ⟨U, o, stp _ q, r⟩
theorem Ia.set {xs : List Int32} {ty : FieldType} {i : Nat} {x : Int32} (F : Ia Z h a ty xs) (W : Wr h h' a i (.int x)) (hx : fits ty (.int x) = true) : Ia Z h' a ty (xs.set i x) := by
  obtain ⟨c, A, e1, f, r⟩ := F
  refine ⟨_, A.same W, by simp [Cell.setSlot, e1], fun y hy => ?_, by simpa using r⟩
  rcases List.mem_or_eq_of_mem_set hy with q | q
  · exact f y q
  · rw [q]; exact hx
theorem in_of {xs : List Int32} {c : Cell} {j : Int32} {i : Nat} (e1 : c.slots = (xs.map Value.int).toArray) (hj : j.toInt = (i : Int)) (hi : i < xs.length) : ¬ (j < 0 ∨ c.slots.size ≤ j.toNatClampNeg) := by
  obtain ⟨z1, z2⟩ := nat_of_toInt hj
  rw [e1, z2]; simp [z1]; omega
theorem wkP.stC (pc' i : Nat) {xs : List Int32} {j x : Int32} (x' : Int32) (F : Ia Z h a .char xs) (hd : decode B.2.1 pc = .ok (.castore, 1)) (hj : j.toInt = (i : Int)) (hi : i < xs.length) (hx' : nar .char x = x') (ha : a ∈ ws) (hp : pc + 1 = pc')
    (K : ∀ h' : Heap, Keep h h' [a] → Ia Z h' a .char (xs.set i x') → wkP l Z B R hs w0 Q ws h' k n pc' Ls st) : wkP l Z B R hs w0 Q ws h k n pc Ls (.int x :: .int j :: .ref a :: st) := by
  subst hp hx'
  intro p e s m args below meth c vm0 k0 T locs A
  have F0 := F
  obtain ⟨cl, Ar, e1, f, r⟩ := F
  obtain ⟨T', h', X', e', W', stp⟩ := RoadKit.stC A.2.1 A.1.1 A.2.2.2.2.1 A.2.2.1 Ar (j := j) (in_of e1 hj hi) (g := mkF m pc Ls (.int x :: .int j :: .ref a :: st)) rfl rfl (hb A.1.2.1 hd)
  rw [(nat_of_toInt hj).2] at W' X'
  obtain ⟨U, o, q, r⟩ := K h' (Keep.of_wr W') (F0.set W' (fits_nar_char x)) p e s m args below meth c vm0 k0 T' _ (A.wr X' e' W' ha)
  exact ⟨U, o, stp _ q, r⟩
theorem wkP.stB (pc' i : Nat) {xs : List Int32} {j x : Int32} (x' : Int32) (F : Ia Z h a .byte xs) (hd : decode B.2.1 pc = .ok (.bastore, 1)) (hj : j.toInt = (i : Int)) (hi : i < xs.length) (hx' : nar .byte x = x') (ha : a ∈ ws) (hp : pc + 1 = pc')
    (K : ∀ h' : Heap, Keep h h' [a] → Ia Z h' a .byte (xs.set i x') → wkP l Z B R hs w0 Q ws h' k n pc' Ls st) : wkP l Z B R hs w0 Q ws h k n pc Ls (.int x :: .int j :: .ref a :: st) := by
  subst hp hx'
  intro p e s m args below meth c vm0 k0 T locs A
  have F0 := F
  obtain ⟨cl, Ar, e1, f, r⟩ := F
  obtain ⟨T', h', X', e', W', stp⟩ := RoadKit.stB A.2.1 A.1.1 A.2.2.2.2.1 A.2.2.1 Ar (j := j) (in_of e1 hj hi) (g := mkF m pc Ls (.int x :: .int j :: .ref a :: st)) rfl rfl (hb A.1.2.1 hd)
  rw [(nat_of_toInt hj).2] at W' X'
  obtain ⟨U, o, q, r⟩ := K h' (Keep.of_wr W') (F0.set W' (fits_nar_byte x)) p e s m args below meth c vm0 k0 T' _ (A.wr X' e' W' ha)
  exact ⟨U, o, stp _ q, r⟩
theorem Ia.at {xs : List Int32} {c : Cell} {i : Nat} {x j : Int32} (e1 : c.slots = (xs.map Value.int).toArray) (hj : j.toInt = (i : Int)) (hx : xs[i]? = some x) : c.slots[j.toNatClampNeg]? = some (.int x) := by
  rw [(nat_of_toInt hj).2, e1]; simp [hx]
theorem wkP.caload (pc' i : Nat) {xs : List Int32} {j : Int32} (x : Int32) (F : Ia Z h a .char xs) (hd : decode B.2.1 pc = .ok (.caload, 1)) (hj : j.toInt = (i : Int)) (hx : xs[i]? = some x) (hp : pc + 1 = pc') (K : wkP l Z B R hs w0 Q ws h k n pc' Ls (.int x :: st)) : wkP l Z B R hs w0 Q ws h k n pc Ls (.int j :: .ref a :: st) := by
  subst hp
  intro p e s m args below meth c vm0 k0 T locs A
  obtain ⟨cl, Ar, e1, f, r⟩ := F
  have hi : i < xs.length := (List.getElem?_eq_some_iff.mp hx).1
  obtain ⟨U, o, q, r⟩ := K p e s m args below meth c vm0 k0 T locs A
  exact ⟨U, o, A.2.1.caload A.1.1 (by rw [A.2.2.1]; exact Ar.1) (State.isArrayOf_alike (T := s.setVm vm0) A.2.2.2.2.1.alike Ar.2.1) Ar.2.2 (in_of e1 hj hi) (Ia.at e1 hj hx) (g := mkF m pc Ls (.int j :: .ref a :: st)) rfl rfl (hb A.1.2.1 hd) _ q, r⟩
theorem wkP.baload (pc' i : Nat) {xs : List Int32} {j : Int32} (x : Int32) (F : Ia Z h a .byte xs) (hd : decode B.2.1 pc = .ok (.baload, 1)) (hj : j.toInt = (i : Int)) (hx : xs[i]? = some x) (hp : pc + 1 = pc') (K : wkP l Z B R hs w0 Q ws h k n pc' Ls (.int x :: st)) : wkP l Z B R hs w0 Q ws h k n pc Ls (.int j :: .ref a :: st) := by
  subst hp
  intro p e s m args below meth c vm0 k0 T locs A
  obtain ⟨cl, Ar, e1, f, r⟩ := F
  have hi : i < xs.length := (List.getElem?_eq_some_iff.mp hx).1
  obtain ⟨U, o, q, r⟩ := K p e s m args below meth c vm0 k0 T locs A
  exact ⟨U, o, A.2.1.baloadBytes A.1.1 (by rw [A.2.2.1]; exact Ar.1) (State.isArrayOf_alike (T := s.setVm vm0) A.2.2.2.2.1.alike Ar.2.1) Ar.2.2 (in_of e1 hj hi) (Ia.at e1 hj hx) (g := mkF m pc Ls (.int j :: .ref a :: st)) rfl rfl (hb A.1.2.1 hd) _ q, r⟩
theorem wkP.alen (pc' : Nat) {xs : List Int32} {ty : FieldType} (z : Int32) (F : Ia Z h a ty xs) (hd : decode B.2.1 pc = .ok (.arraylength, 1)) (hz : Int32.ofNat xs.length = z) (hp : pc + 1 = pc') (K : wkP l Z B R hs w0 Q ws h k n pc' Ls (.int z :: st)) : wkP l Z B R hs w0 Q ws h k n pc Ls (.ref a :: st) := by
  subst hp hz
  intro p e s m args below meth c vm0 k0 T locs A
  obtain ⟨cl, Ar, e1, f, r⟩ := F
  obtain ⟨U, o, q, r⟩ := K p e s m args below meth c vm0 k0 T locs A
  refine ⟨U, o, A.2.1.arraylength A.1.1 (by rw [A.2.2.1]; exact Ar.1) (State.isArrayOf_alike (T := s.setVm vm0) A.2.2.2.2.1.alike Ar.2.1) (g := mkF m pc Ls (.ref a :: st)) rfl rfl (hb A.1.2.1 hd) _ ?_, r⟩
  have sz : cl.slots.size = xs.length := by rw [e1]; simp
  rw [sz]; exact q
theorem wkP.initO (pc' : Nat) {index : Nat} (w1 : (Cond.methodLink B.1.cls index Lib.objectInit).before a0 Z = true) (w2 : (Cond.instanceMethod Lib.objectInit).before a0 Z = true) (w3 : (Cond.code Lib.objectInit ⟨#[0xb1]⟩ 1 none).before a0 Z = true) (hd : decode B.2.1 pc = .ok (.invokespecial index, 3)) (hsz : Ls.size = B.2.2.1)
    (hf : 1 ≤ R.frames) (W : Nat) (hW : 2 * 0 + (st.map fun v => v.category).sum ≤ W) (hl : W + 12 ≤ R.locals) (hp : pc + 3 = pc') (K : wkP l Z B R hs w0 Q ws h k n pc' Ls st) : wkP l Z B R hs w0 Q ws h k n pc Ls (.ref a :: st) := by
  subst hp
  intro p e s m args below meth c vm0 k0 T locs A
  obtain ⟨T', X', e', stp⟩ := RoadKit.initO A.2.1 A.1.1 A.2.2.2.2.1 A.2.2.2.2.2.1 w1 w2 w3 A.2.2.1 (g := mkF m pc Ls (.ref a :: st)) rfl (hsz.trans A.1.2.2.1.symm) rfl (hb A.1.2.1 hd) hf hW hl
  obtain ⟨U, o, q, r⟩ := K p e s m args below meth c vm0 k0 T' locs (A.same X' e')
  exact ⟨U, o, stp _ q, r⟩
theorem wkP.ldc (pc' : Nat) {index : Nat} {text : String} (xs : List Int32) (N : Nat) (w : (Cond.stringLink B.1.cls index text).before a0 Z = true) (wS : ∀ a ∈ Bundle.stringAtoms, a.before a0 Z = true) (hE : EW Z a0 EL) (hmem : (B.1.cls, index) ∈ EL)
    (ht : (∀ c ∈ text.toList, c.toNat < 256) ∧ text.toList.map (fun c => Value.int (Jvm.Lit.byteI c.toNat.toUInt16)) = xs.map Value.int) (hl : text.toList.length = xs.length) (hxl : xs.length < 100000) (hd : decode B.2.1 pc = .ok (.ldc index, 2)) (hn : 4 * text.toList.length ≤ N) (hN : N ≤ 536870912) (hc : k + 2 ≤ R.cells) (hsl : n + (N + 4) ≤ R.slots) (hp : pc + 2 = pc')
    (K : ∀ (h' : Heap) (a b : Addr), Keep h h' [] → Exa Z h' a "java/lang/String" → Fld Z h' a "java/lang/String" "coder" "B" (.int 0) → Fld Z h' a "java/lang/String" "value" "[B" (.ref b) → Ia Z h' b .byte xs → (∀ x ∈ ws, x ≠ a ∧ x ≠ b) → wkP l Z B R hs w0 Q ws h' (k + 2) (n + (N + 4)) pc' Ls (.ref a :: st)) : wkP l Z B R hs w0 Q ws h k n pc Ls st := by
  subst hp
  intro p e s m args below meth c vm0 k0 T locs A
  have hz : (Int32.ofNat xs.length).toInt = (xs.length : Int) := toInt_of rfl (by omega)
  obtain ⟨z1, z2⟩ := nat_of_toInt hz
  obtain ⟨a1, a2, a3, ⟨a4, a5⟩, a6, a7, a8, a9, a10, a11, a12⟩ := A
  obtain ⟨a, T', h', k1, b, kb, X', e', E', S', k1', W', O', q1, q2, q3, q4, q5, q6, C', -, ne, stp⟩ := ldcCH a2 a1.1 a6 a7 w wS a3 a4 a5 hE hmem a8.1 ht z1 (by rw [z2]; simp) (g := mkF m pc Ls st) rfl (hb a1.2.1 hd) hn hN hc hsl
  have sf : ∀ x ∈ ws, Z.heap.size ≤ x ∧ x < h'.size ∧ Safe Z EL T'.vm h' x ∧ (x ∈ w0 ∨ hs.size ≤ x) := fun x hx => ⟨(a12 x hx).1, Nat.lt_of_lt_of_le (a12 x hx).2.1 E'.1, C'.safe (a12 x hx).2.1 (a12 x hx).2.2.1, (a12 x hx).2.2.2⟩
  obtain ⟨U, o, q, r⟩ := K h' a b (keepExt E') q1 q2 q3 (Ia.of_arv q4 rfl (by rw [z2]; simp)) (fun x hx => ne x (sf x hx).2.2.1) p e s m args below meth c T'.vm k1 T' locs ⟨a1, X', e', ⟨S', k1'⟩, W', O', a8.trans C', a9, a10.ext E', a11.ext E', sf⟩
  exact ⟨U, o, stp _ q, r⟩
theorem wkBack {B' : wkB} {rm : Room} {as : Array Value} {wc : List Addr} {Q' : Option Value → Heap → List Addr → Prop} {len W : Nat} (M : wkM l Z B' rm as h wc Q') (hO : Old Z Z.heap.size h) (hw : ∀ x ∈ wc, Z.heap.size ≤ x ∧ x < h.size) (hZ : Z.Warmed39 vm0) (wcd : (Cond.code B'.1 B'.2.1 B'.2.2.1 B'.2.2.2).before a0 Z = true) (wz : (Cond.initialized B'.1.cls).before a0 Z = true)
    (hf : rm.frames + 1 ≤ R.frames) (hl : W + (B'.2.2.1 + 11) + rm.locals ≤ R.locals) (hE : EW Z a0 EL) (H : CHv Z EL vm0 h) (hS : ∀ x ∈ wc, Safe Z EL vm0 h x) :
    BackS l R p e below (s.setVm vm0) args B'.1 len W (fun A a => a = as ∧ A.U.heap = h ∧ A.cells + rm.cells ≤ R.cells ∧ A.slots + rm.slots ≤ R.slots)
      (fun A _ v D => ∃ L os, (Q' v D.U.heap os ∧ Keep h D.U.heap wc ∧ Fr Z.heap.size L ∧ Old Z Z.heap.size D.U.heap ∧ wkSf Z D.U.vm D.U.heap h wc os) ∧ D.locs = A.locs ++ L ∧ D.cells = A.cells + rm.cells ∧ D.slots = A.slots + rm.slots ∧ CHr Z EL vm0 h D.U.vm D.U.heap) :=
  BackS.of_freeW (bytes := B'.2.1) (maxL := B'.2.2.1) (ret := B'.2.2.2) (E := fun _ first o t L k n => k = rm.cells ∧ n = rm.slots ∧ (∃ v os, o = .returned v ∧ (Q' v t.heap os ∧ Keep h t.heap wc ∧ Fr Z.heap.size L ∧ Old Z Z.heap.size t.heap ∧ wkSf Z t.vm t.heap h wc os)) ∧ CHr Z EL first.vm first.heap t.vm t.heap) (M hO hw) hf hl
    (fun m meth c A a Y hp => have hU : Z.Warmed39 A.U.vm := wtrans (s := s.setVm vm0) hZ Y.warmed
      ⟨by show (Cond.and _ .tt).before a A.U = true; rw [Cond.before_and, mv hU wcd]; rfl, mv hU wcd, mv hU wz, hp.2.2.1, hp.2.2.2⟩)
    (fun m meth c A a g mk Y hp => ⟨hp.1, wtrans (s := s.setVm vm0) hZ Y.warmed, hp.2.1, (CHv.at Y hZ hE H).1, fun x hx => (CHv.at Y hZ hE H).safe (hw x hx).2 (hS x hx)⟩) (fun _ _ _ _ _ _ _ _ _ => trivial)
    (fun _ _ _ _ ⟨v, L, h1, ⟨os, h2⟩, h3, h4⟩ => ⟨L, _, _, h4, rfl, rfl, ⟨v, os, h1, h2⟩, h3⟩)
    (fun m meth c A a g mk v t L k n Y hp _ _ ⟨e1, e2, ⟨v', os, e3, e4⟩, e5⟩ => by
      cases e3; subst e1 e2
      refine ⟨L, os, e4, rfl, rfl, rfl, (CHv.at Y hZ hE H).trans ?_⟩
      rw [← hp.2.1]; exact e5)
/-- behind a call: the walk goes on over the tables and the heap that the callee left -/
theorem wkAt.back {U : State} {L : List Loc} {os wc : List Addr} {k2 n2 : Nat} (A : wkAt p l e R s m args below meth c Z B hs w0 ws h k n vm0 k0 T locs) (X' : Stand p l e R ((s.setVm vm0).setVm U.vm) m args below meth c U (locs ++ L) k2 n2) (hS : (s.setVm vm0).Since U.vm U.heap.size) (hg : T.heap.size ≤ U.heap.size)
    (hK : Keep h U.heap wc) (hL : Fr Z.heap.size L) (hO : Old Z Z.heap.size U.heap) (hos : wkSf Z U.vm U.heap h wc os) (hC : CHr Z EL vm0 h U.vm U.heap) (hwc : ∀ x ∈ wc, x ∈ ws) : wkAt p l e R s m args below meth c Z B hs w0 (os ++ ws) U.heap k2 n2 U.vm U.heap.size U (locs ++ L) := by
  obtain ⟨a1, a2, a3, ⟨a4, a5⟩, a6, a7, a8, a9, a10, a11, a12⟩ := A
  obtain ⟨r1, r2, r3, r4⟩ := rebS (own := B.1.cls) a4 (by rw [a3]; exact a5) X' hS hg a6 a7
  refine ⟨a1, r1, rfl, ⟨r2, Nat.le_refl _⟩, r3, r4, a8.trans hC, Fr.app a9 hL, hO, a11.trans hK (fun x hx => (a12 x (hwc x hx)).2.2.2), fun x hx => ?_⟩
  rcases List.mem_append.mp hx with q | q
  · obtain ⟨o1, o2, o3, o4⟩ := hos x q
    refine ⟨o1, o2, o3, ?_⟩
    rcases o4 with o4 | o4
    · exact (a12 x (hwc x o4)).2.2.2
    · exact Or.inr (Nat.le_trans a11.1 o4)
  · exact ⟨(a12 x q).1, Nat.lt_of_lt_of_le (a12 x q).2.1 hK.1, hC.safe (a12 x q).2.1 (a12 x q).2.2.1, (a12 x q).2.2.2⟩
theorem wkP.callS (pc' : Nat) {B' : wkB} {rm : Room} {as : Array Value} {wc : List Addr} {Q' : Option Value → Heap → List Addr → Prop} {index : Nat} (M : wkM l Z B' rm as h wc Q') (argsL rest : List Value) (W : Nat) (hE : EW Z a0 EL)
    (w1 : (Cond.methodLink B.1.cls index B'.1).before a0 Z = true) (w2 : (Cond.static B'.1).before a0 Z = true) (w3 : (Cond.initialized B'.1.cls).before a0 Z = true) (w4 : (Cond.code B'.1 B'.2.1 B'.2.2.1 B'.2.2.2).before a0 Z = true)
    (hy : B'.1.cls ≠ "java/lang/invoke/MethodHandle" ∧ B'.1.cls ≠ "java/lang/invoke/VarHandle") (hd : decode B.2.1 pc = .ok (.invokestatic index, 3)) (hlen : ∀ sig, parseMethodDescriptor B'.1.desc = some sig → argsL.length = sig.parameters.length) (has : argsL.toArray = as) (hst : st = argsL.reverse ++ rest) (hsz : Ls.size = B.2.2.1)
    (hwc : ∀ x ∈ wc, x ∈ ws) (hW : 2 * 0 + (rest.map fun v => v.category).sum ≤ W) (hf : rm.frames + 1 ≤ R.frames) (hl : W + (B'.2.2.1 + 11) + rm.locals ≤ R.locals) (hc : k + rm.cells ≤ R.cells) (hsl : n + rm.slots ≤ R.slots) (hp : pc + 3 = pc')
    (K : ∀ (v : Option Value) (h' : Heap) (os : List Addr), Q' v h' os → Keep h h' wc → wkP l Z B R hs w0 Q (os ++ ws) h' (k + rm.cells) (n + rm.slots) pc' Ls (v.toList ++ rest)) : wkP l Z B R hs w0 Q ws h k n pc Ls st := by
  subst hp hst has
  intro p e s m args below meth c vm0 k0 T locs A
  obtain ⟨a1, a2, a3, ⟨a4, a5⟩, a6, a7, a8, a9, a10, a11, a12⟩ := id A
  obtain ⟨v, vm₁, D, -, X', hS, hg, ⟨L, os, ⟨b1, b2, b3, b4, b5⟩, c1, c2, c3, c4⟩, stp⟩ := callSS a2 a1.1 a7 (mvT (s := s.setVm vm0) a6 w1) (mvT (s := s.setVm vm0) a6 w2) (mvT (s := s.setVm vm0) a6 w3) (mvT (s := s.setVm vm0) a6 w4) hy (wkBack M a10 (fun x hx => ⟨(a12 x (hwc x hx)).1, (a12 x (hwc x hx)).2.1⟩) a6 w4 w3 hf hl hE a8.1 (fun x hx => (a12 x (hwc x hx)).2.2.1)) (g := mkF m pc Ls (argsL.reverse ++ rest)) rfl (hsz.trans a1.2.2.1.symm) hlen rfl hW (hb a1.2.1 hd) (fun _ _ => ⟨rfl, a3, hc, hsl⟩)
  obtain ⟨U, dl, dc, ds⟩ := D
  dsimp only at X' hS hg b1 b2 b4 b5 c1 c2 c3 c4 stp
  subst c1 c2 c3
  obtain ⟨U2, o, q, r⟩ := K v U.heap os b1 b2 p e s m args below meth c U.vm U.heap.size U _ (A.back X' hS hg b2 b3 b4 b5 c4 hwc)
  exact ⟨U2, o, stp.trans q, r⟩
theorem wkP.callI (pc' : Nat) {B' : wkB} {rm : Room} {as : Array Value} {wc : List Addr} {Q' : Option Value → Heap → List Addr → Prop} {index : Nat} (M : wkM l Z B' rm as h wc Q') (argsL rest : List Value) (W : Nat) (hE : EW Z a0 EL)
    (w1 : (Cond.methodLink B.1.cls index B'.1).before a0 Z = true) (w2 : (Cond.instanceMethod B'.1).before a0 Z = true) (w3 : (Cond.initialized B'.1.cls).before a0 Z = true) (w4 : (Cond.code B'.1 B'.2.1 B'.2.2.1 B'.2.2.2).before a0 Z = true) (hnm : B'.1.name = "<init>") (hrt : B'.2.2.2 = none)
    (hy : B'.1.cls ≠ "java/lang/invoke/MethodHandle" ∧ B'.1.cls ≠ "java/lang/invoke/VarHandle") (hd : decode B.2.1 pc = .ok (.invokespecial index, 3)) (hlen : ∀ sig, parseMethodDescriptor B'.1.desc = some sig → argsL.length = sig.parameters.length) (has : (.ref a :: argsL).toArray = as) (hst : st = argsL.reverse ++ .ref a :: rest) (hsz : Ls.size = B.2.2.1)
    (hwc : ∀ x ∈ wc, x ∈ ws) (hW : 2 * 0 + (rest.map fun v => v.category).sum ≤ W) (hf : rm.frames + 1 ≤ R.frames) (hl : W + (B'.2.2.1 + 11) + rm.locals ≤ R.locals) (hc : k + rm.cells ≤ R.cells) (hsl : n + rm.slots ≤ R.slots) (hp : pc + 3 = pc')
    (K : ∀ (v : Option Value) (h' : Heap) (os : List Addr), Q' v h' os → Keep h h' wc → wkP l Z B R hs w0 Q (os ++ ws) h' (k + rm.cells) (n + rm.slots) pc' Ls (v.toList ++ rest)) : wkP l Z B R hs w0 Q ws h k n pc Ls st := by
  subst hp hst has
  intro p e s m args below meth c vm0 k0 T locs A
  obtain ⟨a1, a2, a3, ⟨a4, a5⟩, a6, a7, a8, a9, a10, a11, a12⟩ := id A
  have w4' : (Cond.code B'.1 B'.2.1 B'.2.2.1 none).before a0 Z = true := hrt ▸ w4
  obtain ⟨v, vm₁, D, -, X', hS, hg, ⟨L, os, ⟨b1, b2, b3, b4, b5⟩, c1, c2, c3, c4⟩, stp⟩ := a2.specialBackS a1.1 hnm a7 (mvT (s := s.setVm vm0) a6 w1) (mvT (s := s.setVm vm0) a6 w2) (mvT (s := s.setVm vm0) a6 w4') hy (wkBack M a10 (fun x hx => ⟨(a12 x (hwc x hx)).1, (a12 x (hwc x hx)).2.1⟩) a6 w4 w3 hf hl hE a8.1 (fun x hx => (a12 x (hwc x hx)).2.2.1)) (g := mkF m pc Ls (argsL.reverse ++ .ref a :: rest)) rfl (hsz.trans a1.2.2.1.symm) (Steps.refl _) hlen rfl hW (hb a1.2.1 hd) (fun _ _ => ⟨rfl, a3, hc, hsl⟩)
  obtain ⟨U, dl, dc, ds⟩ := D
  dsimp only at X' hS hg b1 b2 b4 b5 c1 c2 c3 c4 stp
  subst c1 c2 c3
  obtain ⟨U2, o, q, r⟩ := K v U.heap os b1 b2 p e s m args below meth c U.vm U.heap.size U _ (A.back X' hS hg b2 b3 b4 b5 c4 hwc)
  exact ⟨U2, o, stp.trans q, r⟩
theorem wkNFs {C : String} {y : MethodName} (w : (Cond.selects C y y).before a0 Z = true) : ∀ s : State, Z.Warmed39 s.vm → NotFace s y := fun s hZ => notFace_of_selects (args := #[]) (mvT hZ w)
theorem wkP.callV (pc' : Nat) {y : MethodName} {C : String} {B' : wkB} {rm : Room} {as : Array Value} {wc : List Addr} {Q' : Option Value → Heap → List Addr → Prop} {index : Nat} (M : wkM l Z B' rm as h wc Q') (argsL rest : List Value) (W : Nat) (hE : EW Z a0 EL) (E : Exa Z h a C) (NF : ∀ s : State, Z.Warmed39 s.vm → NotFace s y)
    (w1 : (Cond.methodLink B.1.cls index y).before a0 Z = true) (w1' : (Cond.declares y).before a0 Z = true) (w2 : (Cond.selects C y B'.1).before a0 Z = true) (w2' : (Cond.instanceMethod B'.1).before a0 Z = true) (w3 : (Cond.initialized B'.1.cls).before a0 Z = true) (w4 : (Cond.code B'.1 B'.2.1 B'.2.2.1 B'.2.2.2).before a0 Z = true)
    (hy : y.cls ≠ "java/lang/invoke/MethodHandle" ∧ y.cls ≠ "java/lang/invoke/VarHandle") (hd : decode B.2.1 pc = .ok (.invokevirtual index, 3)) (hlen : ∀ sig, parseMethodDescriptor y.desc = some sig → argsL.length = sig.parameters.length) (has : (.ref a :: argsL).toArray = as) (hst : st = argsL.reverse ++ .ref a :: rest) (hsz : Ls.size = B.2.2.1)
    (hwc : ∀ x ∈ wc, x ∈ ws) (hW : 2 * 0 + (rest.map fun v => v.category).sum ≤ W) (hf : rm.frames + 1 ≤ R.frames) (hl : W + (B'.2.2.1 + 11) + rm.locals ≤ R.locals) (hc : k + rm.cells ≤ R.cells) (hsl : n + rm.slots ≤ R.slots) (hp : pc + 3 = pc')
    (K : ∀ (v : Option Value) (h' : Heap) (os : List Addr), Q' v h' os → Keep h h' wc → wkP l Z B R hs w0 Q (os ++ ws) h' (k + rm.cells) (n + rm.slots) pc' Ls (v.toList ++ rest)) : wkP l Z B R hs w0 Q ws h k n pc Ls st := by
  subst hp hst has
  intro p e s m args below meth c vm0 k0 T locs A
  obtain ⟨a1, a2, a3, ⟨a4, a5⟩, a6, a7, a8, a9, a10, a11, a12⟩ := id A
  obtain ⟨cq, kq, i1, i2, i3⟩ := isOf (s := s.setVm vm0) a6 a3 E
  obtain ⟨v, vm₁, D, -, X', hS, hg, ⟨L, os, ⟨b1, b2, b3, b4, b5⟩, c1, c2, c3, c4⟩, stp⟩ := a2.virtualBackS a1.1 (y := y) (z := B'.1) a7 (mvT (s := s.setVm vm0) a6 w1) (mvT (s := s.setVm vm0) a6 w1') (NF (s.setVm vm0) a6) (mvT (s := s.setVm vm0) a6 w2) (mvT (s := s.setVm vm0) a6 w2') hy (wkBack M a10 (fun x hx => ⟨(a12 x (hwc x hx)).1, (a12 x (hwc x hx)).2.1⟩) a6 w4 w3 hf hl hE a8.1 (fun x hx => (a12 x (hwc x hx)).2.2.1)) i1 i3 (g := mkF m pc Ls (argsL.reverse ++ .ref a :: rest)) rfl (hsz.trans a1.2.2.1.symm) (Steps.refl _) hlen rfl hW (hb a1.2.1 hd) (fun _ _ => ⟨rfl, a3, hc, hsl⟩)
  obtain ⟨U, dl, dc, ds⟩ := D
  dsimp only at X' hS hg b1 b2 b4 b5 c1 c2 c3 c4 stp
  subst c1 c2 c3
  obtain ⟨U2, o, q, r⟩ := K v U.heap os b1 b2 p e s m args below meth c U.vm U.heap.size U _ (A.back X' hS hg b2 b3 b4 b5 c4 hwc)
  exact ⟨U2, o, stp.trans q, r⟩
theorem wkP.old (K : Ext Z.heap h → wkP l Z B R hs w0 Q ws h k n pc Ls st) : wkP l Z B R hs w0 Q ws h k n pc Ls st := by
  intro p e s m args below meth c vm0 k0 T locs A
  exact K A.2.2.2.2.2.2.2.2.1.2 p e s m args below meth c vm0 k0 T locs A
theorem wkP.callF (pc' : Nat) {y : MethodName} {C : String} {B' : wkB} {rm : Room} {as : Array Value} {wc : List Addr} {Q' : Option Value → Heap → List Addr → Prop} {index count : Nat} (M : wkM l Z B' rm as h wc Q') (argsL rest : List Value) (W : Nat) (hE : EW Z a0 EL) (E : Exa Z h a C)
    (w1 : (Cond.methodLink B.1.cls index y).before a0 Z = true) (w1' : (Cond.declares y).before a0 Z = true) (wf : (Cond.interfaceMethod y.cls y.cls y.name y.desc).before a0 Z = true) (hfa : ((Cond.interfaceMethod y.cls y.cls y.name y.desc).onTables && (Cond.interfaceMethod y.cls y.cls y.name y.desc).keepsFace) = true) (w2 : (Cond.selects C y B'.1).before a0 Z = true) (w2' : (Cond.instanceMethod B'.1).before a0 Z = true) (wp : (Cond.publicMethod B'.1).before a0 Z = true) (wu : (Cond.unhidden C y.name y.desc).before a0 Z = true) (wk : (Cond.castable C y.cls).before a0 Z = true) (w3 : (Cond.initialized B'.1.cls).before a0 Z = true) (w4 : (Cond.code B'.1 B'.2.1 B'.2.2.1 B'.2.2.2).before a0 Z = true)
    (hy : y.cls ≠ "java/lang/invoke/MethodHandle" ∧ y.cls ≠ "java/lang/invoke/VarHandle") (hd : decode B.2.1 pc = .ok (.invokeinterface index count, 5)) (hlen : ∀ sig, parseMethodDescriptor y.desc = some sig → argsL.length = sig.parameters.length) (has : (.ref a :: argsL).toArray = as) (hst : st = argsL.reverse ++ .ref a :: rest) (hsz : Ls.size = B.2.2.1)
    (hwc : ∀ x ∈ wc, x ∈ ws) (hW : 2 * 0 + (rest.map fun v => v.category).sum ≤ W) (hf : rm.frames + 1 ≤ R.frames) (hl : W + (B'.2.2.1 + 11) + rm.locals ≤ R.locals) (hc : k + rm.cells ≤ R.cells) (hsl : n + rm.slots ≤ R.slots) (hp : pc + 5 = pc')
    (K : ∀ (v : Option Value) (h' : Heap) (os : List Addr), Q' v h' os → Keep h h' wc → wkP l Z B R hs w0 Q (os ++ ws) h' (k + rm.cells) (n + rm.slots) pc' Ls (v.toList ++ rest)) : wkP l Z B R hs w0 Q ws h k n pc Ls st := by
  subst hp hst has
  intro p e s m args below meth c vm0 k0 T locs A
  obtain ⟨a1, a2, a3, ⟨a4, a5⟩, a6, a7, a8, a9, a10, a11, a12⟩ := id A
  obtain ⟨cq, kq, i1, i2, i3⟩ := isOf (s := s.setVm vm0) a6 a3 E
  obtain ⟨v, vm₁, D, -, X', hS, hg, ⟨L, os, ⟨b1, b2, b3, b4, b5⟩, c1, c2, c3, c4⟩, stp⟩ := a2.interfaceBackS a1.1 (xi := y) (y := B'.1) a7 (mvT (s := s.setVm vm0) a6 w1) (mvT (s := s.setVm vm0) a6 w1') (mvT (s := s.setVm vm0) a6 wf hfa) (mvT (s := s.setVm vm0) a6 w2) (mvT (s := s.setVm vm0) a6 w2') (mvT (s := s.setVm vm0) a6 wp) (mvT (s := s.setVm vm0) a6 wu) (mvT (s := s.setVm vm0) a6 wk) hy (wkBack M a10 (fun x hx => ⟨(a12 x (hwc x hx)).1, (a12 x (hwc x hx)).2.1⟩) a6 w4 w3 hf hl hE a8.1 (fun x hx => (a12 x (hwc x hx)).2.2.1)) i1 i2 i3 (g := mkF m pc Ls (argsL.reverse ++ .ref a :: rest)) rfl (hsz.trans a1.2.2.1.symm) (Steps.refl _) hlen rfl hW (hb a1.2.1 hd) (fun _ _ => ⟨rfl, a3, hc, hsl⟩)
  obtain ⟨U, dl, dc, ds⟩ := D
  dsimp only at X' hS hg b1 b2 b4 b5 c1 c2 c3 c4 stp
  subst c1 c2 c3
  obtain ⟨U2, o, q, r⟩ := K v U.heap os b1 b2 p e s m args below meth c U.vm U.heap.size U _ (A.back X' hS hg b2 b3 b4 b5 c4 hwc)
  exact ⟨U2, o, stp.trans q, r⟩
theorem wkMore {s U : State} {o : Outcome} {L : List Loc} {k n k1 n1 : Nat} (hE : ReturnedEndW s o U L k n) (hk : k ≤ k1) (hn : n ≤ n1) : ReturnedEndW s o U L k1 n1 := ⟨hE.1, hE.2.1, hE.2.2.1, hE.2.2.2.mono hk hn⟩
theorem wkP.leave {rv : Option Value} {stk : List Value} (os : List Addr) (hE : EW Z a0 EL) (hq : Q rv h os) (hos : ∀ x ∈ os, x ∈ ws) (hk : k ≤ R.cells) (hn : n ≤ R.slots) (hv : B.2.2.2 = none → rv = none)
    (hst : ∀ (p : Program) (e : Env) (s : State) (m : MethodId) (args : Array Value) (below : List Frame) (meth : Method) (c : Code) (vm0 : Vm) (T : State) (locs : List Loc), p.tables.exec = Jvm.exec → c.code = B.2.1 → meth.sig.returnType = B.2.2.2 → Stand p l e R (s.setVm vm0) m args below meth c T locs k n → ∀ fs, (∀ (f : JFrame) (acts : List Action), f.method = m → f.locked = none → f.entered = [] → (doReturn e (T.setTop f) acts rv).1 = T.setFrames fs) → Steps p.tables e below (T.setTop (mkF m pc Ls stk)) (T.setFrames fs)) : wkP l Z B R hs w0 Q ws h k n pc Ls stk := by
  intro p e s m args below meth c vm0 k0 T locs A
  obtain ⟨a1, a2, a3, ⟨a4, a5⟩, a6, a7, a8, a9, a10, a11, a12⟩ := A
  obtain ⟨fs, hr, hrun, hended, hend⟩ := a2.leaveW a4 (by rw [a3]; exact a5) (v := rv) (fun q => hv (a1.2.2.2.1.symm.trans q)) a1.2.2.2.2.1
  have C1 := CHv.at a2 a6 hE a8.1
  subst a3
  exact ⟨_, _, hst p e s m args below meth c vm0 T locs a1.1 a1.2.1 a1.2.2.2.1 a2 fs hr, hrun, hended, rv, locs, rfl, ⟨os, hq, a11, a9, a10, fun x hx => ⟨(a12 x (hos x hx)).1, (a12 x (hos x hx)).2.1, C1.safe (a12 x (hos x hx)).2.1 (a12 x (hos x hx)).2.2.1, (a12 x (hos x hx)).2.2.2⟩⟩, a8.trans C1, wkMore hend hk hn⟩
theorem wkP.ret {i : Instr} {w : Value} (t : FieldType) (os : List Addr) (hE : EW Z a0 EL) (hd : decode B.2.1 pc = .ok (i, 1)) (hret : B.2.2.2 = some t) (hnr : narrow t w = w)
    (hi : (i = .ireturn ∧ (t = .int ∨ t = .boolean ∨ t = .byte ∨ t = .char ∨ t = .short) ∧ ∃ z, w = .int z) ∨ (i = .lreturn ∧ t = .long ∧ ∃ z, w = .long z) ∨ (i = .dreturn ∧ t = .double ∧ ∃ z, w = .double z) ∨ (i = .freturn ∧ t = .float ∧ ∃ z, w = .float z) ∨ (i = .areturn ∧ t.isReference = true ∧ w.isRef = true))
    (hk : k ≤ R.cells) (hn : n ≤ R.slots) (hos : ∀ x ∈ os, x ∈ ws) (hq : Q (some w) h os) : wkP l Z B R hs w0 Q ws h k n pc Ls (w :: st) :=
  .leave os hE hq hos hk hn (fun q => by rw [hret] at q; cases q) (fun p e s m args below meth c vm0 T locs hx hby hr X fs hl => retOut X hx (hr.trans hret) hnr hi (hb hby hd) hl)
theorem wkP.retA {a : Addr} (t : FieldType) (os : List Addr) (hE : EW Z a0 EL) (hd : decode B.2.1 pc = .ok (.areturn, 1)) (hret : B.2.2.2 = some t) (ht : t.isReference = true)
    (hk : k ≤ R.cells) (hn : n ≤ R.slots) (hos : ∀ x ∈ os, x ∈ ws) (hq : Q (some (.ref a)) h os) : wkP l Z B R hs w0 Q ws h k n pc Ls (.ref a :: st) :=
  .ret t os hE hd hret (by cases t <;> first | rfl | exact Bool.noConfusion ht) (Or.inr (Or.inr (Or.inr (Or.inr ⟨rfl, ht, rfl⟩)))) hk hn hos hq
theorem wkP.retI {z : Int32} (t : FieldType) (os : List Addr) (hE : EW Z a0 EL) (hd : decode B.2.1 pc = .ok (.ireturn, 1)) (hret : B.2.2.2 = some t) (ht : t = .int ∨ t = .boolean ∨ t = .byte ∨ t = .char ∨ t = .short) (hnr : narrow t (.int z) = .int z)
    (hk : k ≤ R.cells) (hn : n ≤ R.slots) (hos : ∀ x ∈ os, x ∈ ws) (hq : Q (some (.int z)) h os) : wkP l Z B R hs w0 Q ws h k n pc Ls (.int z :: st) :=
  .ret t os hE hd hret hnr (Or.inl ⟨rfl, ht, z, rfl⟩) hk hn hos hq
theorem wkP.ret0 (os : List Addr) (hE : EW Z a0 EL) (hd : decode B.2.1 pc = .ok (.return_, 1)) (hret : B.2.2.2 = none)
    (hk : k ≤ R.cells) (hn : n ≤ R.slots) (hos : ∀ x ∈ os, x ∈ ws) (hq : Q none h os) : wkP l Z B R hs w0 Q ws h k n pc Ls [] :=
  .leave os hE hq hos hk hn (fun _ => rfl) (fun p e s m args below meth c vm0 T locs hx hby hr X fs hl => X.returnOut hx (hr.trans hret) (hb hby hd) hl)
theorem wkM.of {B : wkB} {rm : Room} {as : Array Value} {w0 : List Addr} (Ls : Array Slot) (hpl : plainFor B.1 = true) (he : ∀ m, entryFrame m as B.2.2.1 = mkF m 0 Ls []) (K : wkP l Z B rm h w0 Q w0 h 0 0 0 Ls []) : wkM l Z B rm as h w0 Q := by
  intro hO hw
  refine MetFree.of_bodySF hpl hisR ?_
  intro p e s m args below meth c s₁ Bd hml hP hK
  obtain ⟨rfl, hZ, hh, hC, hS⟩ := hP
  have X0 : Stand p l e rm s m args below meth c s₁ [] 0 0 := Stand.of_body Bd
  have e0 : s₁.heap = h := by rw [← hh, Bd.state]; rfl
  subst hh
  obtain ⟨U, o, st, r⟩ := K p e s m args below meth c s.vm s.heap.size s₁ [] ⟨⟨Bd.exec, Bd.bytes, hml, Bd.returns, Bd.notSynchronized, (name_of_methodNamed Bd.named Bd.method).1⟩, X0, e0, ⟨(State.WarmedH.refl s).since _, Nat.le_refl _⟩, hZ, findClass_of_methodNamed Bd.named, CHr.refl hC, Fr.nil _, hO, Keep.refl _ _, fun x hx => ⟨(hw x hx).1, (hw x hx).2, hS x hx, Or.inl hx⟩⟩
  exact ⟨U, o, castTop (he m) st, r⟩
theorem wkM.mono {B : wkB} {rm : Room} {as : Array Value} {w0 : List Addr} {Q2 : Option Value → Heap → List Addr → Prop} (M : wkM l Z B rm as h w0 Q) (q : ∀ v h' os, Q v h' os → Q2 v h' os) : wkM l Z B rm as h w0 Q2 := by
  intro hO hw p e ha hc hk s m args below hf happ hP hK
  obtain ⟨n, o, h1, h2, h3, v, L, e1, ⟨os, b1, b2⟩, r⟩ := M hO hw p e ha hc hk s m args below hf happ hP hK
  exact ⟨n, o, h1, h2, h3, v, L, e1, ⟨os, q _ _ _ b1, b2⟩, r⟩
end Rules2
end WK

section Str
/-- what is known all along: the sheet's words, the literals' texts, compact strings are on -/
def G (Z : State) (a0 : Array Value) : Prop := (∀ d ∈ tables_1, d.before a0 Z = true) ∧ EW Z a0 EL ∧ (∃ z : Int32, Sta Z Z.heap "java/lang/String" "COMPACT_STRINGS" "Z" (.int z) ∧ ¬ z = 0)
theorem ofNat_lt {i j : Nat} (hi : i < 2 ^ 31) (hj : j < 2 ^ 31) : Int32.ofNat i < Int32.ofNat j ↔ i < j := by
  rw [Int32.lt_iff_toInt_lt, toInt_of (n := Int32.ofNat i) rfl hi, toInt_of (n := Int32.ofNat j) rfl hj]; omega
theorem ofNat_inj {i j : Nat} (hi : i < 2 ^ 31) (hj : j < 2 ^ 31) : Int32.ofNat i = Int32.ofNat j ↔ i = j := by
  constructor
  · intro q
    have := congrArg Int32.toInt q
    rw [toInt_of (n := Int32.ofNat i) rfl hi, toInt_of (n := Int32.ofNat j) rfl hj] at this; omega
  · intro q; rw [q]
theorem toI {i : Nat} (hi : i < 2 ^ 31) : (Int32.ofNat i).toInt = (i : Int) := toInt_of rfl hi
theorem inc1 (i : Nat) : Int32.ofNat i + Int32.ofInt 1 = Int32.ofNat (i + 1) := (inc_ofNat i).symm
def lo8 (c : Int32) : Int32 := c.toInt8.toInt32
theorem lo8_i (c : Int32) : (lo8 c).toInt = c.toInt.bmod 256 := by simp [lo8]
theorem nar_lo8 (c : Int32) : nar .byte (lo8 c) = lo8 c := by
  show (lo8 c).toInt8.toInt32 = lo8 c
  rw [← Int32.toInt_inj]
  show (lo8 (lo8 c)).toInt = _
  rw [lo8_i, lo8_i]; simp
def lat (cs : List Int32) : Prop := ∀ c ∈ cs, ¬ c < 0 ∧ ¬ 255 < c
theorem lo8_inj {c d : Int32} (hc : ¬ c < 0 ∧ ¬ 255 < c) (hd : ¬ d < 0 ∧ ¬ 255 < d) (q : lo8 c = lo8 d) : c = d := by
  have := congrArg Int32.toInt q
  rw [lo8_i, lo8_i] at this
  rw [← Int32.toInt_inj]
  simp only [Int32.lt_iff_toInt_lt, Int32.reduceToInt] at hc hd
  simp only [Int.bmod_def] at this
  omega
theorem lat_map_inj : ∀ {cs ds : List Int32}, lat cs → lat ds → cs.map lo8 = ds.map lo8 → cs = ds
  | [], [], _, _, _ => rfl
  | [], _ :: _, _, _, q => by simp at q
  | _ :: _, [], _, _, q => by simp at q
  | c :: cs, d :: ds, h1, h2, q => by
    simp only [List.map_cons, List.cons.injEq] at q
    rw [lo8_inj (h1 c (by simp)) (h2 d (by simp)) q.1, lat_map_inj (fun x hx => h1 x (by simp [hx])) (fun x hx => h2 x (by simp [hx])) q.2]
/-- the String at a is compact, its bytes (at b) those of these chars -/
def SL (Z : State) (h : Heap) (a b : Addr) (cs : List Int32) : Prop := Exa Z h a "java/lang/String" ∧ Fld Z h a "java/lang/String" "coder" "B" (.int 0) ∧ Fld Z h a "java/lang/String" "value" "[B" (.ref b) ∧ Ia Z h b .byte (cs.map lo8) ∧ lat cs
theorem SL.keep {Z : State} {h h' : Heap} {a b : Addr} {cs : List Int32} {ws : List Addr} (F : SL Z h a b cs) (K : Keep h h' ws) (qa : a ∉ ws) (qb : b ∉ ws) : SL Z h' a b cs := ⟨F.1.keep K, F.2.1.keep K qa, F.2.2.1.keep K qa, F.2.2.2.1.keep K qb, F.2.2.2.2⟩
theorem SL.lta {Z : State} {h : Heap} {a b : Addr} {cs : List Int32} (F : SL Z h a b cs) : h.size > a := F.1.lt
theorem SL.ltb {Z : State} {h : Heap} {a b : Addr} {cs : List Int32} (F : SL Z h a b cs) : h.size > b := F.2.2.2.1.lt
theorem SL.len {Z : State} {h : Heap} {a b : Addr} {cs : List Int32} (F : SL Z h a b cs) : cs.length < 2 ^ 31 := by have := F.2.2.2.1.len; simpa using this
theorem narB0 {z : Int32} (q : z = 0 ∨ z = 1) : narrow .boolean (.int z) = .int z := by rcases q with rfl | rfl <;> rfl
end Str
theorem w0 {Z : State} {a0 : Array Value} (hw : ∀ d ∈ tables_1, d.before a0 Z = true) : (Jvm.Cond.classLink "com/example/axis3/axis3/model/ShardEqualsPinLaw" (7 : Nat) "com/example/axis3/axis3/model/Shard").before a0 Z = true := hw _ (List.mem_of_getElem? (i := 0) rfl)
theorem w1 {Z : State} {a0 : Array Value} (hw : ∀ d ∈ tables_1, d.before a0 Z = true) : (Jvm.Cond.instantiable "com/example/axis3/axis3/model/Shard" (2 : Nat)).before a0 Z = true := hw _ (List.mem_of_getElem? (i := 1) rfl)
theorem w2 {Z : State} {a0 : Array Value} (hw : ∀ d ∈ tables_1, d.before a0 Z = true) : (Jvm.Cond.initialized "com/example/axis3/axis3/model/Shard").before a0 Z = true := hw _ (List.mem_of_getElem? (i := 2) rfl)
theorem w3 {Z : State} {a0 : Array Value} (hw : ∀ d ∈ tables_1, d.before a0 Z = true) : (Jvm.Cond.methodLink "com/example/axis3/axis3/model/ShardEqualsPinLaw" (9 : Nat) ({ cls := "com/example/axis3/axis3/model/ShardEqualsPinLaw", name := "str", desc := "(I)Ljava/lang/String;" } : Jvm.MethodName)).before a0 Z = true := hw _ (List.mem_of_getElem? (i := 3) rfl)
theorem w4 {Z : State} {a0 : Array Value} (hw : ∀ d ∈ tables_1, d.before a0 Z = true) : (Jvm.Cond.static ({ cls := "com/example/axis3/axis3/model/ShardEqualsPinLaw", name := "str", desc := "(I)Ljava/lang/String;" } : Jvm.MethodName)).before a0 Z = true := hw _ (List.mem_of_getElem? (i := 4) rfl)
theorem w5 {Z : State} {a0 : Array Value} (hw : ∀ d ∈ tables_1, d.before a0 Z = true) : (Jvm.Cond.initialized "com/example/axis3/axis3/model/ShardEqualsPinLaw").before a0 Z = true := hw _ (List.mem_of_getElem? (i := 5) rfl)
theorem w6 {Z : State} {a0 : Array Value} (hw : ∀ d ∈ tables_1, d.before a0 Z = true) : (Jvm.Cond.code ({ cls := "com/example/axis3/axis3/model/ShardEqualsPinLaw", name := "str", desc := "(I)Ljava/lang/String;" } : Jvm.MethodName) method_4_code (4 : Nat) (Option.some (Jvm.ClassFile.FieldType.object "java/lang/String"))).before a0 Z = true := hw _ (List.mem_of_getElem? (i := 6) rfl)
theorem w7 {Z : State} {a0 : Array Value} (hw : ∀ d ∈ tables_1, d.before a0 Z = true) : (Jvm.Cond.methodLink "com/example/axis3/axis3/model/ShardEqualsPinLaw" (32 : Nat) ({ cls := "com/example/axis3/axis3/model/ShardEqualsPinLaw", name := "len", desc := "(I)I" } : Jvm.MethodName)).before a0 Z = true := hw _ (List.mem_of_getElem? (i := 7) rfl)
theorem w8 {Z : State} {a0 : Array Value} (hw : ∀ d ∈ tables_1, d.before a0 Z = true) : (Jvm.Cond.static ({ cls := "com/example/axis3/axis3/model/ShardEqualsPinLaw", name := "len", desc := "(I)I" } : Jvm.MethodName)).before a0 Z = true := hw _ (List.mem_of_getElem? (i := 8) rfl)
theorem w9 {Z : State} {a0 : Array Value} (hw : ∀ d ∈ tables_1, d.before a0 Z = true) : (Jvm.Cond.code ({ cls := "com/example/axis3/axis3/model/ShardEqualsPinLaw", name := "len", desc := "(I)I" } : Jvm.MethodName) method_3_code (1 : Nat) (Option.some Jvm.ClassFile.FieldType.int)).before a0 Z = true := hw _ (List.mem_of_getElem? (i := 9) rfl)
theorem w10 {Z : State} {a0 : Array Value} (hw : ∀ d ∈ tables_1, d.before a0 Z = true) : (Jvm.Cond.methodLink "com/example/axis3/axis3/model/ShardEqualsPinLaw" (26 : Nat) ({ cls := "java/lang/Math", name := "min", desc := "(II)I" } : Jvm.MethodName)).before a0 Z = true := hw _ (List.mem_of_getElem? (i := 10) rfl)
theorem w11 {Z : State} {a0 : Array Value} (hw : ∀ d ∈ tables_1, d.before a0 Z = true) : (Jvm.Cond.static ({ cls := "java/lang/Math", name := "min", desc := "(II)I" } : Jvm.MethodName)).before a0 Z = true := hw _ (List.mem_of_getElem? (i := 11) rfl)
theorem w12 {Z : State} {a0 : Array Value} (hw : ∀ d ∈ tables_1, d.before a0 Z = true) : (Jvm.Cond.initialized "java/lang/Math").before a0 Z = true := hw _ (List.mem_of_getElem? (i := 12) rfl)
theorem w13 {Z : State} {a0 : Array Value} (hw : ∀ d ∈ tables_1, d.before a0 Z = true) : (Jvm.Cond.code ({ cls := "java/lang/Math", name := "min", desc := "(II)I" } : Jvm.MethodName) jdk_29_method_69_code (2 : Nat) (Option.some Jvm.ClassFile.FieldType.int)).before a0 Z = true := hw _ (List.mem_of_getElem? (i := 13) rfl)
theorem w14 {Z : State} {a0 : Array Value} (hw : ∀ d ∈ tables_1, d.before a0 Z = true) : (Jvm.Cond.stringLink "com/example/axis3/axis3/model/ShardEqualsPinLaw" (36 : Nat) "").before a0 Z = true := hw _ (List.mem_of_getElem? (i := 14) rfl)
theorem w15 {Z : State} {a0 : Array Value} (hw : ∀ d ∈ tables_1, d.before a0 Z = true) : (Jvm.Cond.initialized "java/lang/String").before a0 Z = true := hw _ (List.mem_of_getElem? (i := 15) rfl)
theorem w16 {Z : State} {a0 : Array Value} (hw : ∀ d ∈ tables_1, d.before a0 Z = true) : (Jvm.Cond.instantiable "java/lang/String" (4 : Nat)).before a0 Z = true := hw _ (List.mem_of_getElem? (i := 16) rfl)
theorem w17 {Z : State} {a0 : Array Value} (hw : ∀ d ∈ tables_1, d.before a0 Z = true) : (Jvm.Cond.arrayClass Jvm.ClassFile.FieldType.byte).before a0 Z = true := hw _ (List.mem_of_getElem? (i := 17) rfl)
theorem w18 {Z : State} {a0 : Array Value} (hw : ∀ d ∈ tables_1, d.before a0 Z = true) : (Jvm.Cond.laysFinal "java/lang/String" "java/lang/String" "value" "[B").before a0 Z = true := hw _ (List.mem_of_getElem? (i := 18) rfl)
theorem w19 {Z : State} {a0 : Array Value} (hw : ∀ d ∈ tables_1, d.before a0 Z = true) : (Jvm.Cond.laysFinal "java/lang/String" "java/lang/String" "coder" "B").before a0 Z = true := hw _ (List.mem_of_getElem? (i := 19) rfl)
theorem w20 {Z : State} {a0 : Array Value} (hw : ∀ d ∈ tables_1, d.before a0 Z = true) : (Jvm.Cond.soleField "java/lang/String" "value").before a0 Z = true := hw _ (List.mem_of_getElem? (i := 20) rfl)
theorem w21 {Z : State} {a0 : Array Value} (hw : ∀ d ∈ tables_1, d.before a0 Z = true) : (Jvm.Cond.soleField "java/lang/String" "coder").before a0 Z = true := hw _ (List.mem_of_getElem? (i := 21) rfl)
theorem w22 {Z : State} {a0 : Array Value} (hw : ∀ d ∈ tables_1, d.before a0 Z = true) : (Jvm.Cond.methodLink "com/example/axis3/axis3/model/ShardEqualsPinLaw" (15 : Nat) ({ cls := "com/example/axis3/axis3/model/Shard", name := "<init>", desc := "(Ljava/lang/String;Ljava/lang/String;)V" } : Jvm.MethodName)).before a0 Z = true := hw _ (List.mem_of_getElem? (i := 22) rfl)
theorem w23 {Z : State} {a0 : Array Value} (hw : ∀ d ∈ tables_1, d.before a0 Z = true) : (Jvm.Cond.instanceMethod ({ cls := "com/example/axis3/axis3/model/Shard", name := "<init>", desc := "(Ljava/lang/String;Ljava/lang/String;)V" } : Jvm.MethodName)).before a0 Z = true := hw _ (List.mem_of_getElem? (i := 23) rfl)
theorem w24 {Z : State} {a0 : Array Value} (hw : ∀ d ∈ tables_1, d.before a0 Z = true) : (Jvm.Cond.code ({ cls := "com/example/axis3/axis3/model/Shard", name := "<init>", desc := "(Ljava/lang/String;Ljava/lang/String;)V" } : Jvm.MethodName) prog_47_method_1_code (3 : Nat) (Option.none : Option Jvm.ClassFile.FieldType)).before a0 Z = true := hw _ (List.mem_of_getElem? (i := 24) rfl)
theorem w25 {Z : State} {a0 : Array Value} (hw : ∀ d ∈ tables_1, d.before a0 Z = true) : (Jvm.Cond.methodLink "com/example/axis3/axis3/model/Shard" (1 : Nat) ({ cls := "java/lang/Object", name := "<init>", desc := "()V" } : Jvm.MethodName)).before a0 Z = true := hw _ (List.mem_of_getElem? (i := 25) rfl)
theorem w26 {Z : State} {a0 : Array Value} (hw : ∀ d ∈ tables_1, d.before a0 Z = true) : (Jvm.Cond.instanceMethod ({ cls := "java/lang/Object", name := "<init>", desc := "()V" } : Jvm.MethodName)).before a0 Z = true := hw _ (List.mem_of_getElem? (i := 26) rfl)
theorem w27 {Z : State} {a0 : Array Value} (hw : ∀ d ∈ tables_1, d.before a0 Z = true) : (Jvm.Cond.code ({ cls := "java/lang/Object", name := "<init>", desc := "()V" } : Jvm.MethodName) object_method_1_code (1 : Nat) (Option.none : Option Jvm.ClassFile.FieldType)).before a0 Z = true := hw _ (List.mem_of_getElem? (i := 27) rfl)
theorem w28 {Z : State} {a0 : Array Value} (hw : ∀ d ∈ tables_1, d.before a0 Z = true) : (Jvm.Cond.stringLink "com/example/axis3/axis3/model/Shard" (7 : Nat) "name").before a0 Z = true := hw _ (List.mem_of_getElem? (i := 28) rfl)
theorem w29 {Z : State} {a0 : Array Value} (hw : ∀ d ∈ tables_1, d.before a0 Z = true) : (Jvm.Cond.methodLink "com/example/axis3/axis3/model/Shard" (9 : Nat) ({ cls := "java/util/Objects", name := "requireNonNull", desc := "(Ljava/lang/Object;Ljava/lang/String;)Ljava/lang/Object;" } : Jvm.MethodName)).before a0 Z = true := hw _ (List.mem_of_getElem? (i := 29) rfl)
theorem w30 {Z : State} {a0 : Array Value} (hw : ∀ d ∈ tables_1, d.before a0 Z = true) : (Jvm.Cond.static ({ cls := "java/util/Objects", name := "requireNonNull", desc := "(Ljava/lang/Object;Ljava/lang/String;)Ljava/lang/Object;" } : Jvm.MethodName)).before a0 Z = true := hw _ (List.mem_of_getElem? (i := 30) rfl)
theorem w31 {Z : State} {a0 : Array Value} (hw : ∀ d ∈ tables_1, d.before a0 Z = true) : (Jvm.Cond.initialized "java/util/Objects").before a0 Z = true := hw _ (List.mem_of_getElem? (i := 31) rfl)
theorem w32 {Z : State} {a0 : Array Value} (hw : ∀ d ∈ tables_1, d.before a0 Z = true) : (Jvm.Cond.code ({ cls := "java/util/Objects", name := "requireNonNull", desc := "(Ljava/lang/Object;Ljava/lang/String;)Ljava/lang/Object;" } : Jvm.MethodName) jdk_31_method_11_code (2 : Nat) (Option.some (Jvm.ClassFile.FieldType.object "java/lang/Object"))).before a0 Z = true := hw _ (List.mem_of_getElem? (i := 32) rfl)
theorem w33 {Z : State} {a0 : Array Value} (hw : ∀ d ∈ tables_1, d.before a0 Z = true) : (Jvm.Cond.classLink "com/example/axis3/axis3/model/Shard" (15 : Nat) "java/lang/String").before a0 Z = true := hw _ (List.mem_of_getElem? (i := 33) rfl)
theorem w35 {Z : State} {a0 : Array Value} (hw : ∀ d ∈ tables_1, d.before a0 Z = true) : (Jvm.Cond.fieldLink "com/example/axis3/axis3/model/Shard" (17 : Nat) "com/example/axis3/axis3/model/Shard" "name" "Ljava/lang/String;").before a0 Z = true := hw _ (List.mem_of_getElem? (i := 35) rfl)
theorem w36 {Z : State} {a0 : Array Value} (hw : ∀ d ∈ tables_1, d.before a0 Z = true) : (Jvm.Cond.laysFinal "com/example/axis3/axis3/model/Shard" "com/example/axis3/axis3/model/Shard" "name" "Ljava/lang/String;").before a0 Z = true := hw _ (List.mem_of_getElem? (i := 36) rfl)
theorem w37 {Z : State} {a0 : Array Value} (hw : ∀ d ∈ tables_1, d.before a0 Z = true) : (Jvm.Cond.stringLink "com/example/axis3/axis3/model/Shard" (22 : Nat) "url").before a0 Z = true := hw _ (List.mem_of_getElem? (i := 37) rfl)
theorem w38 {Z : State} {a0 : Array Value} (hw : ∀ d ∈ tables_1, d.before a0 Z = true) : (Jvm.Cond.fieldLink "com/example/axis3/axis3/model/Shard" (24 : Nat) "com/example/axis3/axis3/model/Shard" "url" "Ljava/lang/String;").before a0 Z = true := hw _ (List.mem_of_getElem? (i := 38) rfl)
theorem w39 {Z : State} {a0 : Array Value} (hw : ∀ d ∈ tables_1, d.before a0 Z = true) : (Jvm.Cond.laysFinal "com/example/axis3/axis3/model/Shard" "com/example/axis3/axis3/model/Shard" "url" "Ljava/lang/String;").before a0 Z = true := hw _ (List.mem_of_getElem? (i := 39) rfl)
theorem w40 {Z : State} {a0 : Array Value} (hw : ∀ d ∈ tables_1, d.before a0 Z = true) : (Jvm.Cond.methodLink "com/example/axis3/axis3/model/ShardEqualsPinLaw" (22 : Nat) ({ cls := "com/example/axis3/axis3/model/Shard", name := "equals", desc := "(Ljava/lang/Object;)Z" } : Jvm.MethodName)).before a0 Z = true := hw _ (List.mem_of_getElem? (i := 40) rfl)
theorem w41 {Z : State} {a0 : Array Value} (hw : ∀ d ∈ tables_1, d.before a0 Z = true) : (Jvm.Cond.declares ({ cls := "com/example/axis3/axis3/model/Shard", name := "equals", desc := "(Ljava/lang/Object;)Z" } : Jvm.MethodName)).before a0 Z = true := hw _ (List.mem_of_getElem? (i := 41) rfl)
theorem w42 {Z : State} {a0 : Array Value} (hw : ∀ d ∈ tables_1, d.before a0 Z = true) : (Jvm.Cond.instanceMethod ({ cls := "com/example/axis3/axis3/model/Shard", name := "equals", desc := "(Ljava/lang/Object;)Z" } : Jvm.MethodName)).before a0 Z = true := hw _ (List.mem_of_getElem? (i := 42) rfl)
theorem w43 {Z : State} {a0 : Array Value} (hw : ∀ d ∈ tables_1, d.before a0 Z = true) : (Jvm.Cond.selects "com/example/axis3/axis3/model/Shard" ({ cls := "com/example/axis3/axis3/model/Shard", name := "equals", desc := "(Ljava/lang/Object;)Z" } : Jvm.MethodName) ({ cls := "com/example/axis3/axis3/model/Shard", name := "equals", desc := "(Ljava/lang/Object;)Z" } : Jvm.MethodName)).before a0 Z = true := hw _ (List.mem_of_getElem? (i := 43) rfl)
theorem w44 {Z : State} {a0 : Array Value} (hw : ∀ d ∈ tables_1, d.before a0 Z = true) : (Jvm.Cond.code ({ cls := "com/example/axis3/axis3/model/Shard", name := "equals", desc := "(Ljava/lang/Object;)Z" } : Jvm.MethodName) prog_47_method_4_code (2 : Nat) (Option.some Jvm.ClassFile.FieldType.boolean)).before a0 Z = true := hw _ (List.mem_of_getElem? (i := 44) rfl)
theorem w45 {Z : State} {a0 : Array Value} (hw : ∀ d ∈ tables_1, d.before a0 Z = true) : (Jvm.Cond.classLink "com/example/axis3/axis3/model/Shard" (18 : Nat) "com/example/axis3/axis3/model/Shard").before a0 Z = true := hw _ (List.mem_of_getElem? (i := 45) rfl)
theorem w47 {Z : State} {a0 : Array Value} (hw : ∀ d ∈ tables_1, d.before a0 Z = true) : (Jvm.Cond.methodLink "com/example/axis3/axis3/model/Shard" (26 : Nat) ({ cls := "java/lang/String", name := "equals", desc := "(Ljava/lang/Object;)Z" } : Jvm.MethodName)).before a0 Z = true := hw _ (List.mem_of_getElem? (i := 47) rfl)
theorem w48 {Z : State} {a0 : Array Value} (hw : ∀ d ∈ tables_1, d.before a0 Z = true) : (Jvm.Cond.declares ({ cls := "java/lang/String", name := "equals", desc := "(Ljava/lang/Object;)Z" } : Jvm.MethodName)).before a0 Z = true := hw _ (List.mem_of_getElem? (i := 48) rfl)
theorem w49 {Z : State} {a0 : Array Value} (hw : ∀ d ∈ tables_1, d.before a0 Z = true) : (Jvm.Cond.instanceMethod ({ cls := "java/lang/String", name := "equals", desc := "(Ljava/lang/Object;)Z" } : Jvm.MethodName)).before a0 Z = true := hw _ (List.mem_of_getElem? (i := 49) rfl)
theorem w50 {Z : State} {a0 : Array Value} (hw : ∀ d ∈ tables_1, d.before a0 Z = true) : (Jvm.Cond.selects "java/lang/String" ({ cls := "java/lang/String", name := "equals", desc := "(Ljava/lang/Object;)Z" } : Jvm.MethodName) ({ cls := "java/lang/String", name := "equals", desc := "(Ljava/lang/Object;)Z" } : Jvm.MethodName)).before a0 Z = true := hw _ (List.mem_of_getElem? (i := 50) rfl)
theorem w51 {Z : State} {a0 : Array Value} (hw : ∀ d ∈ tables_1, d.before a0 Z = true) : (Jvm.Cond.code ({ cls := "java/lang/String", name := "equals", desc := "(Ljava/lang/Object;)Z" } : Jvm.MethodName) jdk_42_method_66_code (3 : Nat) (Option.some Jvm.ClassFile.FieldType.boolean)).before a0 Z = true := hw _ (List.mem_of_getElem? (i := 51) rfl)
theorem w52 {Z : State} {a0 : Array Value} (hw : ∀ d ∈ tables_1, d.before a0 Z = true) : (Jvm.Cond.superclass "java/lang/String" "java/lang/Object").before a0 Z = true := hw _ (List.mem_of_getElem? (i := 52) rfl)
theorem w53 {Z : State} {a0 : Array Value} (hw : ∀ d ∈ tables_1, d.before a0 Z = true) : (Jvm.Cond.noSuperclass "java/lang/Object").before a0 Z = true := hw _ (List.mem_of_getElem? (i := 53) rfl)
theorem w54 {Z : State} {a0 : Array Value} (hw : ∀ d ∈ tables_1, d.before a0 Z = true) : (Jvm.Cond.classLink "com/example/axis3/axis3/model/ShardEqualsPinLaw" (39 : Nat) "java/lang/String").before a0 Z = true := hw _ (List.mem_of_getElem? (i := 54) rfl)
theorem w55 {Z : State} {a0 : Array Value} (hw : ∀ d ∈ tables_1, d.before a0 Z = true) : (Jvm.Cond.arrayClass Jvm.ClassFile.FieldType.char).before a0 Z = true := hw _ (List.mem_of_getElem? (i := 55) rfl)
theorem w56 {Z : State} {a0 : Array Value} (hw : ∀ d ∈ tables_1, d.before a0 Z = true) : (Jvm.Cond.methodLink "com/example/axis3/axis3/model/ShardEqualsPinLaw" (44 : Nat) ({ cls := "java/lang/String", name := "<init>", desc := "([C)V" } : Jvm.MethodName)).before a0 Z = true := hw _ (List.mem_of_getElem? (i := 56) rfl)
theorem w57 {Z : State} {a0 : Array Value} (hw : ∀ d ∈ tables_1, d.before a0 Z = true) : (Jvm.Cond.instanceMethod ({ cls := "java/lang/String", name := "<init>", desc := "([C)V" } : Jvm.MethodName)).before a0 Z = true := hw _ (List.mem_of_getElem? (i := 57) rfl)
theorem w58 {Z : State} {a0 : Array Value} (hw : ∀ d ∈ tables_1, d.before a0 Z = true) : (Jvm.Cond.code ({ cls := "java/lang/String", name := "<init>", desc := "([C)V" } : Jvm.MethodName) jdk_42_method_3_code (2 : Nat) (Option.none : Option Jvm.ClassFile.FieldType)).before a0 Z = true := hw _ (List.mem_of_getElem? (i := 58) rfl)
theorem w59 {Z : State} {a0 : Array Value} (hw : ∀ d ∈ tables_1, d.before a0 Z = true) : (Jvm.Cond.methodLink "java/lang/String" (27 : Nat) ({ cls := "java/lang/String", name := "<init>", desc := "([CIILjava/lang/Void;)V" } : Jvm.MethodName)).before a0 Z = true := hw _ (List.mem_of_getElem? (i := 59) rfl)
theorem w60 {Z : State} {a0 : Array Value} (hw : ∀ d ∈ tables_1, d.before a0 Z = true) : (Jvm.Cond.instanceMethod ({ cls := "java/lang/String", name := "<init>", desc := "([CIILjava/lang/Void;)V" } : Jvm.MethodName)).before a0 Z = true := hw _ (List.mem_of_getElem? (i := 60) rfl)
theorem w61 {Z : State} {a0 : Array Value} (hw : ∀ d ∈ tables_1, d.before a0 Z = true) : (Jvm.Cond.code ({ cls := "java/lang/String", name := "<init>", desc := "([CIILjava/lang/Void;)V" } : Jvm.MethodName) jdk_42_method_149_code (6 : Nat) (Option.none : Option Jvm.ClassFile.FieldType)).before a0 Z = true := hw _ (List.mem_of_getElem? (i := 61) rfl)
theorem w62 {Z : State} {a0 : Array Value} (hw : ∀ d ∈ tables_1, d.before a0 Z = true) : (Jvm.Cond.methodLink "java/lang/String" (1 : Nat) ({ cls := "java/lang/Object", name := "<init>", desc := "()V" } : Jvm.MethodName)).before a0 Z = true := hw _ (List.mem_of_getElem? (i := 62) rfl)
theorem w63 {Z : State} {a0 : Array Value} (hw : ∀ d ∈ tables_1, d.before a0 Z = true) : (Jvm.Cond.fieldLink "java/lang/String" (38 : Nat) "java/lang/String" "COMPACT_STRINGS" "Z").before a0 Z = true := hw _ (List.mem_of_getElem? (i := 63) rfl)
theorem w64 {Z : State} {a0 : Array Value} (hw : ∀ d ∈ tables_1, d.before a0 Z = true) : (Jvm.Cond.methodLink "java/lang/String" (177 : Nat) ({ cls := "java/lang/StringUTF16", name := "compress", desc := "([CII)[B" } : Jvm.MethodName)).before a0 Z = true := hw _ (List.mem_of_getElem? (i := 64) rfl)
theorem w65 {Z : State} {a0 : Array Value} (hw : ∀ d ∈ tables_1, d.before a0 Z = true) : (Jvm.Cond.static ({ cls := "java/lang/StringUTF16", name := "compress", desc := "([CII)[B" } : Jvm.MethodName)).before a0 Z = true := hw _ (List.mem_of_getElem? (i := 65) rfl)
theorem w66 {Z : State} {a0 : Array Value} (hw : ∀ d ∈ tables_1, d.before a0 Z = true) : (Jvm.Cond.initialized "java/lang/StringUTF16").before a0 Z = true := hw _ (List.mem_of_getElem? (i := 66) rfl)
theorem w67 {Z : State} {a0 : Array Value} (hw : ∀ d ∈ tables_1, d.before a0 Z = true) : (Jvm.Cond.code ({ cls := "java/lang/StringUTF16", name := "compress", desc := "([CII)[B" } : Jvm.MethodName) jdk_52_method_16_code (6 : Nat) (Option.some (Jvm.ClassFile.FieldType.array Jvm.ClassFile.FieldType.byte))).before a0 Z = true := hw _ (List.mem_of_getElem? (i := 67) rfl)
theorem w68 {Z : State} {a0 : Array Value} (hw : ∀ d ∈ tables_1, d.before a0 Z = true) : (Jvm.Cond.methodLink "java/lang/StringUTF16" (115 : Nat) ({ cls := "java/lang/StringUTF16", name := "compress", desc := "([CI[BII)I" } : Jvm.MethodName)).before a0 Z = true := hw _ (List.mem_of_getElem? (i := 68) rfl)
theorem w69 {Z : State} {a0 : Array Value} (hw : ∀ d ∈ tables_1, d.before a0 Z = true) : (Jvm.Cond.static ({ cls := "java/lang/StringUTF16", name := "compress", desc := "([CI[BII)I" } : Jvm.MethodName)).before a0 Z = true := hw _ (List.mem_of_getElem? (i := 69) rfl)
theorem w70 {Z : State} {a0 : Array Value} (hw : ∀ d ∈ tables_1, d.before a0 Z = true) : (Jvm.Cond.code ({ cls := "java/lang/StringUTF16", name := "compress", desc := "([CI[BII)I" } : Jvm.MethodName) jdk_52_method_21_code (7 : Nat) (Option.some Jvm.ClassFile.FieldType.int)).before a0 Z = true := hw _ (List.mem_of_getElem? (i := 70) rfl)
theorem w71 {Z : State} {a0 : Array Value} (hw : ∀ d ∈ tables_1, d.before a0 Z = true) : (Jvm.Cond.methodLink "java/lang/String" (47 : Nat) ({ cls := "java/lang/StringUTF16", name := "coderFromArrayLen", desc := "([BI)B" } : Jvm.MethodName)).before a0 Z = true := hw _ (List.mem_of_getElem? (i := 71) rfl)
theorem w72 {Z : State} {a0 : Array Value} (hw : ∀ d ∈ tables_1, d.before a0 Z = true) : (Jvm.Cond.static ({ cls := "java/lang/StringUTF16", name := "coderFromArrayLen", desc := "([BI)B" } : Jvm.MethodName)).before a0 Z = true := hw _ (List.mem_of_getElem? (i := 72) rfl)
theorem w73 {Z : State} {a0 : Array Value} (hw : ∀ d ∈ tables_1, d.before a0 Z = true) : (Jvm.Cond.code ({ cls := "java/lang/StringUTF16", name := "coderFromArrayLen", desc := "([BI)B" } : Jvm.MethodName) jdk_52_method_15_code (2 : Nat) (Option.some Jvm.ClassFile.FieldType.byte)).before a0 Z = true := hw _ (List.mem_of_getElem? (i := 73) rfl)
theorem w74 {Z : State} {a0 : Array Value} (hw : ∀ d ∈ tables_1, d.before a0 Z = true) : (Jvm.Cond.fieldLink "java/lang/String" (15 : Nat) "java/lang/String" "coder" "B").before a0 Z = true := hw _ (List.mem_of_getElem? (i := 74) rfl)
theorem w75 {Z : State} {a0 : Array Value} (hw : ∀ d ∈ tables_1, d.before a0 Z = true) : (Jvm.Cond.fieldLink "java/lang/String" (9 : Nat) "java/lang/String" "value" "[B").before a0 Z = true := hw _ (List.mem_of_getElem? (i := 75) rfl)
theorem w76 {Z : State} {a0 : Array Value} (hw : ∀ d ∈ tables_1, d.before a0 Z = true) : (Jvm.Cond.methodLink "com/example/axis3/axis3/model/ShardEqualsPinLaw" (38 : Nat) ({ cls := "java/lang/String", name := "valueOf", desc := "(C)Ljava/lang/String;" } : Jvm.MethodName)).before a0 Z = true := hw _ (List.mem_of_getElem? (i := 76) rfl)
theorem w77 {Z : State} {a0 : Array Value} (hw : ∀ d ∈ tables_1, d.before a0 Z = true) : (Jvm.Cond.static ({ cls := "java/lang/String", name := "valueOf", desc := "(C)Ljava/lang/String;" } : Jvm.MethodName)).before a0 Z = true := hw _ (List.mem_of_getElem? (i := 77) rfl)
theorem w78 {Z : State} {a0 : Array Value} (hw : ∀ d ∈ tables_1, d.before a0 Z = true) : (Jvm.Cond.code ({ cls := "java/lang/String", name := "valueOf", desc := "(C)Ljava/lang/String;" } : Jvm.MethodName) jdk_42_method_139_code (1 : Nat) (Option.some (Jvm.ClassFile.FieldType.object "java/lang/String"))).before a0 Z = true := hw _ (List.mem_of_getElem? (i := 78) rfl)
theorem w79 {Z : State} {a0 : Array Value} (hw : ∀ d ∈ tables_1, d.before a0 Z = true) : (Jvm.Cond.methodLink "java/lang/String" (1015 : Nat) ({ cls := "java/lang/StringLatin1", name := "canEncode", desc := "(C)Z" } : Jvm.MethodName)).before a0 Z = true := hw _ (List.mem_of_getElem? (i := 79) rfl)
theorem w80 {Z : State} {a0 : Array Value} (hw : ∀ d ∈ tables_1, d.before a0 Z = true) : (Jvm.Cond.static ({ cls := "java/lang/StringLatin1", name := "canEncode", desc := "(C)Z" } : Jvm.MethodName)).before a0 Z = true := hw _ (List.mem_of_getElem? (i := 80) rfl)
theorem w81 {Z : State} {a0 : Array Value} (hw : ∀ d ∈ tables_1, d.before a0 Z = true) : (Jvm.Cond.initialized "java/lang/StringLatin1").before a0 Z = true := hw _ (List.mem_of_getElem? (i := 81) rfl)
theorem w82 {Z : State} {a0 : Array Value} (hw : ∀ d ∈ tables_1, d.before a0 Z = true) : (Jvm.Cond.code ({ cls := "java/lang/StringLatin1", name := "canEncode", desc := "(C)Z" } : Jvm.MethodName) jdk_43_method_3_code (1 : Nat) (Option.some Jvm.ClassFile.FieldType.boolean)).before a0 Z = true := hw _ (List.mem_of_getElem? (i := 82) rfl)
theorem w83 {Z : State} {a0 : Array Value} (hw : ∀ d ∈ tables_1, d.before a0 Z = true) : (Jvm.Cond.classLink "java/lang/String" (10 : Nat) "java/lang/String").before a0 Z = true := hw _ (List.mem_of_getElem? (i := 83) rfl)
theorem w84 {Z : State} {a0 : Array Value} (hw : ∀ d ∈ tables_1, d.before a0 Z = true) : (Jvm.Cond.methodLink "java/lang/String" (1018 : Nat) ({ cls := "java/lang/StringLatin1", name := "toBytes", desc := "(C)[B" } : Jvm.MethodName)).before a0 Z = true := hw _ (List.mem_of_getElem? (i := 84) rfl)
theorem w85 {Z : State} {a0 : Array Value} (hw : ∀ d ∈ tables_1, d.before a0 Z = true) : (Jvm.Cond.static ({ cls := "java/lang/StringLatin1", name := "toBytes", desc := "(C)[B" } : Jvm.MethodName)).before a0 Z = true := hw _ (List.mem_of_getElem? (i := 85) rfl)
theorem w86 {Z : State} {a0 : Array Value} (hw : ∀ d ∈ tables_1, d.before a0 Z = true) : (Jvm.Cond.code ({ cls := "java/lang/StringLatin1", name := "toBytes", desc := "(C)[B" } : Jvm.MethodName) jdk_43_method_46_code (1 : Nat) (Option.some (Jvm.ClassFile.FieldType.array Jvm.ClassFile.FieldType.byte))).before a0 Z = true := hw _ (List.mem_of_getElem? (i := 86) rfl)
theorem w87 {Z : State} {a0 : Array Value} (hw : ∀ d ∈ tables_1, d.before a0 Z = true) : (Jvm.Cond.methodLink "java/lang/String" (209 : Nat) ({ cls := "java/lang/String", name := "<init>", desc := "([BB)V" } : Jvm.MethodName)).before a0 Z = true := hw _ (List.mem_of_getElem? (i := 87) rfl)
theorem w88 {Z : State} {a0 : Array Value} (hw : ∀ d ∈ tables_1, d.before a0 Z = true) : (Jvm.Cond.instanceMethod ({ cls := "java/lang/String", name := "<init>", desc := "([BB)V" } : Jvm.MethodName)).before a0 Z = true := hw _ (List.mem_of_getElem? (i := 88) rfl)
theorem w89 {Z : State} {a0 : Array Value} (hw : ∀ d ∈ tables_1, d.before a0 Z = true) : (Jvm.Cond.code ({ cls := "java/lang/String", name := "<init>", desc := "([BB)V" } : Jvm.MethodName) jdk_42_method_151_code (3 : Nat) (Option.none : Option Jvm.ClassFile.FieldType)).before a0 Z = true := hw _ (List.mem_of_getElem? (i := 89) rfl)
theorem w90 {Z : State} {a0 : Array Value} (hw : ∀ d ∈ tables_1, d.before a0 Z = true) : (Jvm.Cond.methodLink "com/example/axis3/axis3/model/ShardEqualsPinLaw" (18 : Nat) ({ cls := "com/example/axis3/axis3/model/ShardEqualsPinLaw", name := "same", desc := "(II)Z" } : Jvm.MethodName)).before a0 Z = true := hw _ (List.mem_of_getElem? (i := 90) rfl)
theorem w91 {Z : State} {a0 : Array Value} (hw : ∀ d ∈ tables_1, d.before a0 Z = true) : (Jvm.Cond.static ({ cls := "com/example/axis3/axis3/model/ShardEqualsPinLaw", name := "same", desc := "(II)Z" } : Jvm.MethodName)).before a0 Z = true := hw _ (List.mem_of_getElem? (i := 91) rfl)
theorem w92 {Z : State} {a0 : Array Value} (hw : ∀ d ∈ tables_1, d.before a0 Z = true) : (Jvm.Cond.code ({ cls := "com/example/axis3/axis3/model/ShardEqualsPinLaw", name := "same", desc := "(II)Z" } : Jvm.MethodName) method_5_code (4 : Nat) (Option.some Jvm.ClassFile.FieldType.boolean)).before a0 Z = true := hw _ (List.mem_of_getElem? (i := 92) rfl)
theorem w93 {Z : State} {a0 : Array Value} (hw : ∀ d ∈ tables_1, d.before a0 Z = true) : (Jvm.Cond.methodLink "java/lang/String" (541 : Nat) ({ cls := "java/lang/StringLatin1", name := "equals", desc := "([B[B)Z" } : Jvm.MethodName)).before a0 Z = true := hw _ (List.mem_of_getElem? (i := 93) rfl)
theorem w94 {Z : State} {a0 : Array Value} (hw : ∀ d ∈ tables_1, d.before a0 Z = true) : (Jvm.Cond.static ({ cls := "java/lang/StringLatin1", name := "equals", desc := "([B[B)Z" } : Jvm.MethodName)).before a0 Z = true := hw _ (List.mem_of_getElem? (i := 94) rfl)
theorem w95 {Z : State} {a0 : Array Value} (hw : ∀ d ∈ tables_1, d.before a0 Z = true) : (Jvm.Cond.code ({ cls := "java/lang/StringLatin1", name := "equals", desc := "([B[B)Z" } : Jvm.MethodName) jdk_43_method_13_code (3 : Nat) (Option.some Jvm.ClassFile.FieldType.boolean)).before a0 Z = true := hw _ (List.mem_of_getElem? (i := 95) rfl)
theorem pd0 : parseMethodDescriptor "([CI[BII)I" = some ⟨[(.array .char), .int, (.array .byte), .int, .int], some .int⟩ := by decide +kernel
theorem pd1 : parseMethodDescriptor "([CII)[B" = some ⟨[(.array .char), .int, .int], some (.array .byte)⟩ := by decide +kernel
theorem pd2 : parseMethodDescriptor "([BI)B" = some ⟨[(.array .byte), .int], some .byte⟩ := by decide +kernel
theorem pd3 : parseMethodDescriptor "([CIILjava/lang/Void;)V" = some ⟨[(.array .char), .int, .int, (.object "java/lang/Void")], none⟩ := by decide +kernel
theorem pd4 : parseMethodDescriptor "(C)Z" = some ⟨[.char], some .boolean⟩ := by decide +kernel
theorem pd5 : parseMethodDescriptor "(C)[B" = some ⟨[.char], some (.array .byte)⟩ := by decide +kernel
theorem pd6 : parseMethodDescriptor "([BB)V" = some ⟨[(.array .byte), .byte], none⟩ := by decide +kernel
theorem pd7 : parseMethodDescriptor "([B[B)Z" = some ⟨[(.array .byte), (.array .byte)], some .boolean⟩ := by decide +kernel
theorem pd8 : parseMethodDescriptor "(II)I" = some ⟨[.int, .int], some .int⟩ := by decide +kernel
theorem pd9 : parseMethodDescriptor "(I)I" = some ⟨[.int], some .int⟩ := by decide +kernel
theorem pd10 : parseMethodDescriptor "(C)Ljava/lang/String;" = some ⟨[.char], some (.object "java/lang/String")⟩ := by decide +kernel
theorem pd11 : parseMethodDescriptor "([C)V" = some ⟨[(.array .char)], none⟩ := by decide +kernel
theorem pd12 : parseMethodDescriptor "(Ljava/lang/Object;Ljava/lang/String;)Ljava/lang/Object;" = some ⟨[(.object "java/lang/Object"), (.object "java/lang/String")], some (.object "java/lang/Object")⟩ := by decide +kernel
theorem pd13 : parseMethodDescriptor "(Ljava/lang/Object;)Z" = some ⟨[(.object "java/lang/Object")], some .boolean⟩ := by decide +kernel
theorem pd14 : parseMethodDescriptor "(I)Ljava/lang/String;" = some ⟨[.int], some (.object "java/lang/String")⟩ := by decide +kernel
theorem pd15 : parseMethodDescriptor "(Ljava/lang/String;Ljava/lang/String;)V" = some ⟨[(.object "java/lang/String"), (.object "java/lang/String")], none⟩ := by decide +kernel
theorem pd16 : parseMethodDescriptor "(II)Z" = some ⟨[.int, .int], some .boolean⟩ := by decide +kernel
theorem dcmp5_0 : decode jdk_52_method_21_code 0 = .ok (.iconst 0, 1) := by decide +kernel
theorem dcmp5_1 : decode jdk_52_method_21_code 1 = .ok (.istore 5, 2) := by decide +kernel
theorem dcmp5_3 : decode jdk_52_method_21_code 3 = .ok (.iload 5, 2) := by decide +kernel
theorem dcmp5_5 : decode jdk_52_method_21_code 5 = .ok (.iload 4, 2) := by decide +kernel
theorem dcmp5_7 : decode jdk_52_method_21_code 7 = .ok (.if_icmp .ge 37, 3) := by decide +kernel
theorem dcmp5_10 : decode jdk_52_method_21_code 10 = .ok (.aload_n 0, 1) := by decide +kernel
theorem dcmp5_11 : decode jdk_52_method_21_code 11 = .ok (.iload_n 1, 1) := by decide +kernel
theorem dcmp5_12 : decode jdk_52_method_21_code 12 = .ok (.caload, 1) := by decide +kernel
theorem dcmp5_13 : decode jdk_52_method_21_code 13 = .ok (.istore 6, 2) := by decide +kernel
theorem dcmp5_15 : decode jdk_52_method_21_code 15 = .ok (.iload 6, 2) := by decide +kernel
theorem dcmp5_17 : decode jdk_52_method_21_code 17 = .ok (.sipush 255, 3) := by decide +kernel
theorem dcmp5_20 : decode jdk_52_method_21_code 20 = .ok (.if_icmp .le 6, 3) := by decide +kernel
theorem dcmp5_23 : decode jdk_52_method_21_code 23 = .ok (.iload 5, 2) := by decide +kernel
theorem dcmp5_25 : decode jdk_52_method_21_code 25 = .ok (.ireturn, 1) := by decide +kernel
theorem dcmp5_26 : decode jdk_52_method_21_code 26 = .ok (.aload_n 2, 1) := by decide +kernel
theorem dcmp5_27 : decode jdk_52_method_21_code 27 = .ok (.iload_n 3, 1) := by decide +kernel
theorem dcmp5_28 : decode jdk_52_method_21_code 28 = .ok (.iload 6, 2) := by decide +kernel
theorem dcmp5_30 : decode jdk_52_method_21_code 30 = .ok (.i2b, 1) := by decide +kernel
theorem dcmp5_31 : decode jdk_52_method_21_code 31 = .ok (.bastore, 1) := by decide +kernel
theorem dcmp5_32 : decode jdk_52_method_21_code 32 = .ok (.iinc 1 1, 3) := by decide +kernel
theorem dcmp5_35 : decode jdk_52_method_21_code 35 = .ok (.iinc 3 1, 3) := by decide +kernel
theorem dcmp5_38 : decode jdk_52_method_21_code 38 = .ok (.iinc 5 1, 3) := by decide +kernel
theorem dcmp5_41 : decode jdk_52_method_21_code 41 = .ok (.goto (-38), 3) := by decide +kernel
theorem dcmp5_44 : decode jdk_52_method_21_code 44 = .ok (.iload 4, 2) := by decide +kernel
theorem dcmp5_46 : decode jdk_52_method_21_code 46 = .ok (.ireturn, 1) := by decide +kernel
abbrev bcmp5 : wkB := (⟨"java/lang/StringUTF16", "compress", "([CI[BII)I"⟩, jdk_52_method_21_code, 7, (some .int))
theorem dcodL_0 : decode jdk_52_method_15_code 0 = .ok (.iload_n 1, 1) := by decide +kernel
theorem dcodL_1 : decode jdk_52_method_15_code 1 = .ok (.aload_n 0, 1) := by decide +kernel
theorem dcodL_2 : decode jdk_52_method_15_code 2 = .ok (.arraylength, 1) := by decide +kernel
theorem dcodL_3 : decode jdk_52_method_15_code 3 = .ok (.isub, 1) := by decide +kernel
theorem dcodL_4 : decode jdk_52_method_15_code 4 = .ok (.bipush 31, 2) := by decide +kernel
theorem dcodL_6 : decode jdk_52_method_15_code 6 = .ok (.iushr, 1) := by decide +kernel
theorem dcodL_7 : decode jdk_52_method_15_code 7 = .ok (.i2b, 1) := by decide +kernel
theorem dcodL_8 : decode jdk_52_method_15_code 8 = .ok (.ireturn, 1) := by decide +kernel
abbrev bcodL : wkB := (⟨"java/lang/StringUTF16", "coderFromArrayLen", "([BI)B"⟩, jdk_52_method_15_code, 2, (some .byte))
theorem dcmp3_0 : decode jdk_52_method_16_code 0 = .ok (.iload_n 2, 1) := by decide +kernel
theorem dcmp3_1 : decode jdk_52_method_16_code 1 = .ok (.newarray .byte, 2) := by decide +kernel
theorem dcmp3_3 : decode jdk_52_method_16_code 3 = .ok (.astore_n 3, 1) := by decide +kernel
theorem dcmp3_4 : decode jdk_52_method_16_code 4 = .ok (.aload_n 0, 1) := by decide +kernel
theorem dcmp3_5 : decode jdk_52_method_16_code 5 = .ok (.iload_n 1, 1) := by decide +kernel
theorem dcmp3_6 : decode jdk_52_method_16_code 6 = .ok (.aload_n 3, 1) := by decide +kernel
theorem dcmp3_7 : decode jdk_52_method_16_code 7 = .ok (.iconst 0, 1) := by decide +kernel
theorem dcmp3_8 : decode jdk_52_method_16_code 8 = .ok (.iload_n 2, 1) := by decide +kernel
theorem dcmp3_9 : decode jdk_52_method_16_code 9 = .ok (.invokestatic 115, 3) := by decide +kernel
theorem dcmp3_12 : decode jdk_52_method_16_code 12 = .ok (.istore 4, 2) := by decide +kernel
theorem dcmp3_14 : decode jdk_52_method_16_code 14 = .ok (.iload 4, 2) := by decide +kernel
theorem dcmp3_16 : decode jdk_52_method_16_code 16 = .ok (.iload_n 2, 1) := by decide +kernel
theorem dcmp3_17 : decode jdk_52_method_16_code 17 = .ok (.if_icmp .eq 40, 3) := by decide +kernel
theorem dcmp3_57 : decode jdk_52_method_16_code 57 = .ok (.aload_n 3, 1) := by decide +kernel
theorem dcmp3_58 : decode jdk_52_method_16_code 58 = .ok (.areturn, 1) := by decide +kernel
abbrev bcmp3 : wkB := (⟨"java/lang/StringUTF16", "compress", "([CII)[B"⟩, jdk_52_method_16_code, 6, (some (.array .byte)))
theorem dinit4_0 : decode jdk_42_method_149_code 0 = .ok (.aload_n 0, 1) := by decide +kernel
theorem dinit4_1 : decode jdk_42_method_149_code 1 = .ok (.invokespecial 1, 3) := by decide +kernel
theorem dinit4_4 : decode jdk_42_method_149_code 4 = .ok (.iload_n 3, 1) := by decide +kernel
theorem dinit4_5 : decode jdk_42_method_149_code 5 = .ok (.ifCond .ne 22, 3) := by decide +kernel
theorem dinit4_27 : decode jdk_42_method_149_code 27 = .ok (.getstatic 38, 3) := by decide +kernel
theorem dinit4_30 : decode jdk_42_method_149_code 30 = .ok (.ifCond .eq 28, 3) := by decide +kernel
theorem dinit4_33 : decode jdk_42_method_149_code 33 = .ok (.aload_n 1, 1) := by decide +kernel
theorem dinit4_34 : decode jdk_42_method_149_code 34 = .ok (.iload_n 2, 1) := by decide +kernel
theorem dinit4_35 : decode jdk_42_method_149_code 35 = .ok (.iload_n 3, 1) := by decide +kernel
theorem dinit4_36 : decode jdk_42_method_149_code 36 = .ok (.invokestatic 177, 3) := by decide +kernel
theorem dinit4_39 : decode jdk_42_method_149_code 39 = .ok (.astore 5, 2) := by decide +kernel
theorem dinit4_41 : decode jdk_42_method_149_code 41 = .ok (.aload_n 0, 1) := by decide +kernel
theorem dinit4_42 : decode jdk_42_method_149_code 42 = .ok (.aload 5, 2) := by decide +kernel
theorem dinit4_44 : decode jdk_42_method_149_code 44 = .ok (.iload_n 3, 1) := by decide +kernel
theorem dinit4_45 : decode jdk_42_method_149_code 45 = .ok (.invokestatic 47, 3) := by decide +kernel
theorem dinit4_48 : decode jdk_42_method_149_code 48 = .ok (.putfield 15, 3) := by decide +kernel
theorem dinit4_51 : decode jdk_42_method_149_code 51 = .ok (.aload_n 0, 1) := by decide +kernel
theorem dinit4_52 : decode jdk_42_method_149_code 52 = .ok (.aload 5, 2) := by decide +kernel
theorem dinit4_54 : decode jdk_42_method_149_code 54 = .ok (.putfield 9, 3) := by decide +kernel
theorem dinit4_57 : decode jdk_42_method_149_code 57 = .ok (.return_, 1) := by decide +kernel
abbrev binit4 : wkB := (⟨"java/lang/String", "<init>", "([CIILjava/lang/Void;)V"⟩, jdk_42_method_149_code, 6, none)
theorem dinit1_0 : decode jdk_42_method_3_code 0 = .ok (.aload_n 0, 1) := by decide +kernel
theorem dinit1_1 : decode jdk_42_method_3_code 1 = .ok (.aload_n 1, 1) := by decide +kernel
theorem dinit1_2 : decode jdk_42_method_3_code 2 = .ok (.iconst 0, 1) := by decide +kernel
theorem dinit1_3 : decode jdk_42_method_3_code 3 = .ok (.aload_n 1, 1) := by decide +kernel
theorem dinit1_4 : decode jdk_42_method_3_code 4 = .ok (.arraylength, 1) := by decide +kernel
theorem dinit1_5 : decode jdk_42_method_3_code 5 = .ok (.aconst_null, 1) := by decide +kernel
theorem dinit1_6 : decode jdk_42_method_3_code 6 = .ok (.invokespecial 27, 3) := by decide +kernel
theorem dinit1_9 : decode jdk_42_method_3_code 9 = .ok (.return_, 1) := by decide +kernel
abbrev binit1 : wkB := (⟨"java/lang/String", "<init>", "([C)V"⟩, jdk_42_method_3_code, 2, none)
theorem dcanE_0 : decode jdk_43_method_3_code 0 = .ok (.iload_n 0, 1) := by decide +kernel
theorem dcanE_1 : decode jdk_43_method_3_code 1 = .ok (.sipush 255, 3) := by decide +kernel
theorem dcanE_4 : decode jdk_43_method_3_code 4 = .ok (.if_icmp .gt 7, 3) := by decide +kernel
theorem dcanE_7 : decode jdk_43_method_3_code 7 = .ok (.iconst 1, 1) := by decide +kernel
theorem dcanE_8 : decode jdk_43_method_3_code 8 = .ok (.goto 4, 3) := by decide +kernel
theorem dcanE_12 : decode jdk_43_method_3_code 12 = .ok (.ireturn, 1) := by decide +kernel
abbrev bcanE : wkB := (⟨"java/lang/StringLatin1", "canEncode", "(C)Z"⟩, jdk_43_method_3_code, 1, (some .boolean))
theorem dtoB_0 : decode jdk_43_method_46_code 0 = .ok (.iconst 1, 1) := by decide +kernel
theorem dtoB_1 : decode jdk_43_method_46_code 1 = .ok (.newarray .byte, 2) := by decide +kernel
theorem dtoB_3 : decode jdk_43_method_46_code 3 = .ok (.dup, 1) := by decide +kernel
theorem dtoB_4 : decode jdk_43_method_46_code 4 = .ok (.iconst 0, 1) := by decide +kernel
theorem dtoB_5 : decode jdk_43_method_46_code 5 = .ok (.iload_n 0, 1) := by decide +kernel
theorem dtoB_6 : decode jdk_43_method_46_code 6 = .ok (.i2b, 1) := by decide +kernel
theorem dtoB_7 : decode jdk_43_method_46_code 7 = .ok (.bastore, 1) := by decide +kernel
theorem dtoB_8 : decode jdk_43_method_46_code 8 = .ok (.areturn, 1) := by decide +kernel
abbrev btoB : wkB := (⟨"java/lang/StringLatin1", "toBytes", "(C)[B"⟩, jdk_43_method_46_code, 1, (some (.array .byte)))
theorem dinitBB_0 : decode jdk_42_method_151_code 0 = .ok (.aload_n 0, 1) := by decide +kernel
theorem dinitBB_1 : decode jdk_42_method_151_code 1 = .ok (.invokespecial 1, 3) := by decide +kernel
theorem dinitBB_4 : decode jdk_42_method_151_code 4 = .ok (.aload_n 0, 1) := by decide +kernel
theorem dinitBB_5 : decode jdk_42_method_151_code 5 = .ok (.aload_n 1, 1) := by decide +kernel
theorem dinitBB_6 : decode jdk_42_method_151_code 6 = .ok (.putfield 9, 3) := by decide +kernel
theorem dinitBB_9 : decode jdk_42_method_151_code 9 = .ok (.aload_n 0, 1) := by decide +kernel
theorem dinitBB_10 : decode jdk_42_method_151_code 10 = .ok (.iload_n 2, 1) := by decide +kernel
theorem dinitBB_11 : decode jdk_42_method_151_code 11 = .ok (.putfield 15, 3) := by decide +kernel
theorem dinitBB_14 : decode jdk_42_method_151_code 14 = .ok (.return_, 1) := by decide +kernel
abbrev binitBB : wkB := (⟨"java/lang/String", "<init>", "([BB)V"⟩, jdk_42_method_151_code, 3, none)
theorem dvalC_0 : decode jdk_42_method_139_code 0 = .ok (.getstatic 38, 3) := by decide +kernel
theorem dvalC_3 : decode jdk_42_method_139_code 3 = .ok (.ifCond .eq 23, 3) := by decide +kernel
theorem dvalC_6 : decode jdk_42_method_139_code 6 = .ok (.iload_n 0, 1) := by decide +kernel
theorem dvalC_7 : decode jdk_42_method_139_code 7 = .ok (.invokestatic 1015, 3) := by decide +kernel
theorem dvalC_10 : decode jdk_42_method_139_code 10 = .ok (.ifCond .eq 16, 3) := by decide +kernel
theorem dvalC_13 : decode jdk_42_method_139_code 13 = .ok (.new 10, 3) := by decide +kernel
theorem dvalC_16 : decode jdk_42_method_139_code 16 = .ok (.dup, 1) := by decide +kernel
theorem dvalC_17 : decode jdk_42_method_139_code 17 = .ok (.iload_n 0, 1) := by decide +kernel
theorem dvalC_18 : decode jdk_42_method_139_code 18 = .ok (.invokestatic 1018, 3) := by decide +kernel
theorem dvalC_21 : decode jdk_42_method_139_code 21 = .ok (.iconst 0, 1) := by decide +kernel
theorem dvalC_22 : decode jdk_42_method_139_code 22 = .ok (.invokespecial 209, 3) := by decide +kernel
theorem dvalC_25 : decode jdk_42_method_139_code 25 = .ok (.areturn, 1) := by decide +kernel
abbrev bvalC : wkB := (⟨"java/lang/String", "valueOf", "(C)Ljava/lang/String;"⟩, jdk_42_method_139_code, 1, (some (.object "java/lang/String")))
theorem deqB_0 : decode jdk_43_method_13_code 0 = .ok (.aload_n 0, 1) := by decide +kernel
theorem deqB_1 : decode jdk_43_method_13_code 1 = .ok (.arraylength, 1) := by decide +kernel
theorem deqB_2 : decode jdk_43_method_13_code 2 = .ok (.aload_n 1, 1) := by decide +kernel
theorem deqB_3 : decode jdk_43_method_13_code 3 = .ok (.arraylength, 1) := by decide +kernel
theorem deqB_4 : decode jdk_43_method_13_code 4 = .ok (.if_icmp .ne 30, 3) := by decide +kernel
theorem deqB_7 : decode jdk_43_method_13_code 7 = .ok (.iconst 0, 1) := by decide +kernel
theorem deqB_8 : decode jdk_43_method_13_code 8 = .ok (.istore_n 2, 1) := by decide +kernel
theorem deqB_9 : decode jdk_43_method_13_code 9 = .ok (.iload_n 2, 1) := by decide +kernel
theorem deqB_10 : decode jdk_43_method_13_code 10 = .ok (.aload_n 0, 1) := by decide +kernel
theorem deqB_11 : decode jdk_43_method_13_code 11 = .ok (.arraylength, 1) := by decide +kernel
theorem deqB_12 : decode jdk_43_method_13_code 12 = .ok (.if_icmp .ge 20, 3) := by decide +kernel
theorem deqB_15 : decode jdk_43_method_13_code 15 = .ok (.aload_n 0, 1) := by decide +kernel
theorem deqB_16 : decode jdk_43_method_13_code 16 = .ok (.iload_n 2, 1) := by decide +kernel
theorem deqB_17 : decode jdk_43_method_13_code 17 = .ok (.baload, 1) := by decide +kernel
theorem deqB_18 : decode jdk_43_method_13_code 18 = .ok (.aload_n 1, 1) := by decide +kernel
theorem deqB_19 : decode jdk_43_method_13_code 19 = .ok (.iload_n 2, 1) := by decide +kernel
theorem deqB_20 : decode jdk_43_method_13_code 20 = .ok (.baload, 1) := by decide +kernel
theorem deqB_21 : decode jdk_43_method_13_code 21 = .ok (.if_icmp .eq 5, 3) := by decide +kernel
theorem deqB_24 : decode jdk_43_method_13_code 24 = .ok (.iconst 0, 1) := by decide +kernel
theorem deqB_25 : decode jdk_43_method_13_code 25 = .ok (.ireturn, 1) := by decide +kernel
theorem deqB_26 : decode jdk_43_method_13_code 26 = .ok (.iinc 2 1, 3) := by decide +kernel
theorem deqB_29 : decode jdk_43_method_13_code 29 = .ok (.goto (-20), 3) := by decide +kernel
theorem deqB_32 : decode jdk_43_method_13_code 32 = .ok (.iconst 1, 1) := by decide +kernel
theorem deqB_33 : decode jdk_43_method_13_code 33 = .ok (.ireturn, 1) := by decide +kernel
theorem deqB_34 : decode jdk_43_method_13_code 34 = .ok (.iconst 0, 1) := by decide +kernel
theorem deqB_35 : decode jdk_43_method_13_code 35 = .ok (.ireturn, 1) := by decide +kernel
abbrev beqB : wkB := (⟨"java/lang/StringLatin1", "equals", "([B[B)Z"⟩, jdk_43_method_13_code, 3, (some .boolean))
theorem deqS_0 : decode jdk_42_method_66_code 0 = .ok (.aload_n 0, 1) := by decide +kernel
theorem deqS_1 : decode jdk_42_method_66_code 1 = .ok (.aload_n 1, 1) := by decide +kernel
theorem deqS_2 : decode jdk_42_method_66_code 2 = .ok (.if_acmp .ne 5, 3) := by decide +kernel
theorem deqS_5 : decode jdk_42_method_66_code 5 = .ok (.iconst 1, 1) := by decide +kernel
theorem deqS_6 : decode jdk_42_method_66_code 6 = .ok (.ireturn, 1) := by decide +kernel
theorem deqS_7 : decode jdk_42_method_66_code 7 = .ok (.aload_n 1, 1) := by decide +kernel
theorem deqS_8 : decode jdk_42_method_66_code 8 = .ok (.instanceof 10, 3) := by decide +kernel
theorem deqS_11 : decode jdk_42_method_66_code 11 = .ok (.ifCond .eq 43, 3) := by decide +kernel
theorem deqS_14 : decode jdk_42_method_66_code 14 = .ok (.aload_n 1, 1) := by decide +kernel
theorem deqS_15 : decode jdk_42_method_66_code 15 = .ok (.checkcast 10, 3) := by decide +kernel
theorem deqS_18 : decode jdk_42_method_66_code 18 = .ok (.astore_n 2, 1) := by decide +kernel
theorem deqS_19 : decode jdk_42_method_66_code 19 = .ok (.getstatic 38, 3) := by decide +kernel
theorem deqS_22 : decode jdk_42_method_66_code 22 = .ok (.ifCond .eq 14, 3) := by decide +kernel
theorem deqS_25 : decode jdk_42_method_66_code 25 = .ok (.aload_n 0, 1) := by decide +kernel
theorem deqS_26 : decode jdk_42_method_66_code 26 = .ok (.getfield 15, 3) := by decide +kernel
theorem deqS_29 : decode jdk_42_method_66_code 29 = .ok (.aload_n 2, 1) := by decide +kernel
theorem deqS_30 : decode jdk_42_method_66_code 30 = .ok (.getfield 15, 3) := by decide +kernel
theorem deqS_33 : decode jdk_42_method_66_code 33 = .ok (.if_icmp .ne 21, 3) := by decide +kernel
theorem deqS_36 : decode jdk_42_method_66_code 36 = .ok (.aload_n 0, 1) := by decide +kernel
theorem deqS_37 : decode jdk_42_method_66_code 37 = .ok (.getfield 9, 3) := by decide +kernel
theorem deqS_40 : decode jdk_42_method_66_code 40 = .ok (.aload_n 2, 1) := by decide +kernel
theorem deqS_41 : decode jdk_42_method_66_code 41 = .ok (.getfield 9, 3) := by decide +kernel
theorem deqS_44 : decode jdk_42_method_66_code 44 = .ok (.invokestatic 541, 3) := by decide +kernel
theorem deqS_47 : decode jdk_42_method_66_code 47 = .ok (.ifCond .eq 7, 3) := by decide +kernel
theorem deqS_50 : decode jdk_42_method_66_code 50 = .ok (.iconst 1, 1) := by decide +kernel
theorem deqS_51 : decode jdk_42_method_66_code 51 = .ok (.goto 4, 3) := by decide +kernel
theorem deqS_54 : decode jdk_42_method_66_code 54 = .ok (.iconst 0, 1) := by decide +kernel
theorem deqS_55 : decode jdk_42_method_66_code 55 = .ok (.ireturn, 1) := by decide +kernel
abbrev beqS : wkB := (⟨"java/lang/String", "equals", "(Ljava/lang/Object;)Z"⟩, jdk_42_method_66_code, 3, (some .boolean))
theorem dmin_0 : decode jdk_29_method_69_code 0 = .ok (.iload_n 0, 1) := by decide +kernel
theorem dmin_1 : decode jdk_29_method_69_code 1 = .ok (.iload_n 1, 1) := by decide +kernel
theorem dmin_2 : decode jdk_29_method_69_code 2 = .ok (.if_icmp .gt 7, 3) := by decide +kernel
theorem dmin_5 : decode jdk_29_method_69_code 5 = .ok (.iload_n 0, 1) := by decide +kernel
theorem dmin_6 : decode jdk_29_method_69_code 6 = .ok (.goto 4, 3) := by decide +kernel
theorem dmin_9 : decode jdk_29_method_69_code 9 = .ok (.iload_n 1, 1) := by decide +kernel
theorem dmin_10 : decode jdk_29_method_69_code 10 = .ok (.ireturn, 1) := by decide +kernel
abbrev bmin : wkB := (⟨"java/lang/Math", "min", "(II)I"⟩, jdk_29_method_69_code, 2, (some .int))
theorem dlen_0 : decode method_3_code 0 = .ok (.iload_n 0, 1) := by decide +kernel
theorem dlen_1 : decode method_3_code 1 = .ok (.bipush 16, 2) := by decide +kernel
theorem dlen_3 : decode method_3_code 3 = .ok (.iushr, 1) := by decide +kernel
theorem dlen_4 : decode method_3_code 4 = .ok (.iconst 3, 1) := by decide +kernel
theorem dlen_5 : decode method_3_code 5 = .ok (.iand, 1) := by decide +kernel
theorem dlen_6 : decode method_3_code 6 = .ok (.iconst 2, 1) := by decide +kernel
theorem dlen_7 : decode method_3_code 7 = .ok (.invokestatic 26, 3) := by decide +kernel
theorem dlen_10 : decode method_3_code 10 = .ok (.ireturn, 1) := by decide +kernel
abbrev blen : wkB := (⟨"com/example/axis3/axis3/model/ShardEqualsPinLaw", "len", "(I)I"⟩, method_3_code, 1, (some .int))
theorem dstr_0 : decode method_4_code 0 = .ok (.iload_n 0, 1) := by decide +kernel
theorem dstr_1 : decode method_4_code 1 = .ok (.invokestatic 32, 3) := by decide +kernel
theorem dstr_4 : decode method_4_code 4 = .ok (.istore_n 1, 1) := by decide +kernel
theorem dstr_5 : decode method_4_code 5 = .ok (.iload_n 0, 1) := by decide +kernel
theorem dstr_6 : decode method_4_code 6 = .ok (.sipush 255, 3) := by decide +kernel
theorem dstr_9 : decode method_4_code 9 = .ok (.iand, 1) := by decide +kernel
theorem dstr_10 : decode method_4_code 10 = .ok (.i2c, 1) := by decide +kernel
theorem dstr_11 : decode method_4_code 11 = .ok (.istore_n 2, 1) := by decide +kernel
theorem dstr_12 : decode method_4_code 12 = .ok (.iload_n 0, 1) := by decide +kernel
theorem dstr_13 : decode method_4_code 13 = .ok (.bipush 8, 2) := by decide +kernel
theorem dstr_15 : decode method_4_code 15 = .ok (.iushr, 1) := by decide +kernel
theorem dstr_16 : decode method_4_code 16 = .ok (.sipush 255, 3) := by decide +kernel
theorem dstr_19 : decode method_4_code 19 = .ok (.iand, 1) := by decide +kernel
theorem dstr_20 : decode method_4_code 20 = .ok (.i2c, 1) := by decide +kernel
theorem dstr_21 : decode method_4_code 21 = .ok (.istore_n 3, 1) := by decide +kernel
theorem dstr_22 : decode method_4_code 22 = .ok (.iload_n 1, 1) := by decide +kernel
theorem dstr_23 : decode method_4_code 23 = .ok (.ifCond .ne 6, 3) := by decide +kernel
theorem dstr_26 : decode method_4_code 26 = .ok (.ldc 36, 2) := by decide +kernel
theorem dstr_28 : decode method_4_code 28 = .ok (.areturn, 1) := by decide +kernel
theorem dstr_29 : decode method_4_code 29 = .ok (.iload_n 1, 1) := by decide +kernel
theorem dstr_30 : decode method_4_code 30 = .ok (.iconst 1, 1) := by decide +kernel
theorem dstr_31 : decode method_4_code 31 = .ok (.if_icmp .ne 8, 3) := by decide +kernel
theorem dstr_34 : decode method_4_code 34 = .ok (.iload_n 2, 1) := by decide +kernel
theorem dstr_35 : decode method_4_code 35 = .ok (.invokestatic 38, 3) := by decide +kernel
theorem dstr_38 : decode method_4_code 38 = .ok (.areturn, 1) := by decide +kernel
theorem dstr_39 : decode method_4_code 39 = .ok (.new 39, 3) := by decide +kernel
theorem dstr_42 : decode method_4_code 42 = .ok (.dup, 1) := by decide +kernel
theorem dstr_43 : decode method_4_code 43 = .ok (.iconst 2, 1) := by decide +kernel
theorem dstr_44 : decode method_4_code 44 = .ok (.newarray .char, 2) := by decide +kernel
theorem dstr_46 : decode method_4_code 46 = .ok (.dup, 1) := by decide +kernel
theorem dstr_47 : decode method_4_code 47 = .ok (.iconst 0, 1) := by decide +kernel
theorem dstr_48 : decode method_4_code 48 = .ok (.iload_n 2, 1) := by decide +kernel
theorem dstr_49 : decode method_4_code 49 = .ok (.castore, 1) := by decide +kernel
theorem dstr_50 : decode method_4_code 50 = .ok (.dup, 1) := by decide +kernel
theorem dstr_51 : decode method_4_code 51 = .ok (.iconst 1, 1) := by decide +kernel
theorem dstr_52 : decode method_4_code 52 = .ok (.iload_n 3, 1) := by decide +kernel
theorem dstr_53 : decode method_4_code 53 = .ok (.castore, 1) := by decide +kernel
theorem dstr_54 : decode method_4_code 54 = .ok (.invokespecial 44, 3) := by decide +kernel
theorem dstr_57 : decode method_4_code 57 = .ok (.areturn, 1) := by decide +kernel
abbrev bstr : wkB := (⟨"com/example/axis3/axis3/model/ShardEqualsPinLaw", "str", "(I)Ljava/lang/String;"⟩, method_4_code, 4, (some (.object "java/lang/String")))
theorem dsame_0 : decode method_5_code 0 = .ok (.iload_n 0, 1) := by decide +kernel
theorem dsame_1 : decode method_5_code 1 = .ok (.invokestatic 32, 3) := by decide +kernel
theorem dsame_4 : decode method_5_code 4 = .ok (.istore_n 2, 1) := by decide +kernel
theorem dsame_5 : decode method_5_code 5 = .ok (.iload_n 1, 1) := by decide +kernel
theorem dsame_6 : decode method_5_code 6 = .ok (.invokestatic 32, 3) := by decide +kernel
theorem dsame_9 : decode method_5_code 9 = .ok (.istore_n 3, 1) := by decide +kernel
theorem dsame_10 : decode method_5_code 10 = .ok (.iload_n 2, 1) := by decide +kernel
theorem dsame_11 : decode method_5_code 11 = .ok (.iload_n 3, 1) := by decide +kernel
theorem dsame_12 : decode method_5_code 12 = .ok (.if_icmp .eq 5, 3) := by decide +kernel
theorem dsame_15 : decode method_5_code 15 = .ok (.iconst 0, 1) := by decide +kernel
theorem dsame_16 : decode method_5_code 16 = .ok (.ireturn, 1) := by decide +kernel
theorem dsame_17 : decode method_5_code 17 = .ok (.iload_n 2, 1) := by decide +kernel
theorem dsame_18 : decode method_5_code 18 = .ok (.iconst 1, 1) := by decide +kernel
theorem dsame_19 : decode method_5_code 19 = .ok (.if_icmp .lt 18, 3) := by decide +kernel
theorem dsame_22 : decode method_5_code 22 = .ok (.iload_n 0, 1) := by decide +kernel
theorem dsame_23 : decode method_5_code 23 = .ok (.sipush 255, 3) := by decide +kernel
theorem dsame_26 : decode method_5_code 26 = .ok (.iand, 1) := by decide +kernel
theorem dsame_27 : decode method_5_code 27 = .ok (.iload_n 1, 1) := by decide +kernel
theorem dsame_28 : decode method_5_code 28 = .ok (.sipush 255, 3) := by decide +kernel
theorem dsame_31 : decode method_5_code 31 = .ok (.iand, 1) := by decide +kernel
theorem dsame_32 : decode method_5_code 32 = .ok (.if_icmp .eq 5, 3) := by decide +kernel
theorem dsame_35 : decode method_5_code 35 = .ok (.iconst 0, 1) := by decide +kernel
theorem dsame_36 : decode method_5_code 36 = .ok (.ireturn, 1) := by decide +kernel
theorem dsame_37 : decode method_5_code 37 = .ok (.iload_n 2, 1) := by decide +kernel
theorem dsame_38 : decode method_5_code 38 = .ok (.iconst 2, 1) := by decide +kernel
theorem dsame_39 : decode method_5_code 39 = .ok (.if_icmp .lt 24, 3) := by decide +kernel
theorem dsame_42 : decode method_5_code 42 = .ok (.iload_n 0, 1) := by decide +kernel
theorem dsame_43 : decode method_5_code 43 = .ok (.bipush 8, 2) := by decide +kernel
theorem dsame_45 : decode method_5_code 45 = .ok (.iushr, 1) := by decide +kernel
theorem dsame_46 : decode method_5_code 46 = .ok (.sipush 255, 3) := by decide +kernel
theorem dsame_49 : decode method_5_code 49 = .ok (.iand, 1) := by decide +kernel
theorem dsame_50 : decode method_5_code 50 = .ok (.iload_n 1, 1) := by decide +kernel
theorem dsame_51 : decode method_5_code 51 = .ok (.bipush 8, 2) := by decide +kernel
theorem dsame_53 : decode method_5_code 53 = .ok (.iushr, 1) := by decide +kernel
theorem dsame_54 : decode method_5_code 54 = .ok (.sipush 255, 3) := by decide +kernel
theorem dsame_57 : decode method_5_code 57 = .ok (.iand, 1) := by decide +kernel
theorem dsame_58 : decode method_5_code 58 = .ok (.if_icmp .eq 5, 3) := by decide +kernel
theorem dsame_61 : decode method_5_code 61 = .ok (.iconst 0, 1) := by decide +kernel
theorem dsame_62 : decode method_5_code 62 = .ok (.ireturn, 1) := by decide +kernel
theorem dsame_63 : decode method_5_code 63 = .ok (.iconst 1, 1) := by decide +kernel
theorem dsame_64 : decode method_5_code 64 = .ok (.ireturn, 1) := by decide +kernel
abbrev bsame : wkB := (⟨"com/example/axis3/axis3/model/ShardEqualsPinLaw", "same", "(II)Z"⟩, method_5_code, 4, (some .boolean))
theorem drnn_0 : decode jdk_31_method_11_code 0 = .ok (.aload_n 0, 1) := by decide +kernel
theorem drnn_1 : decode jdk_31_method_11_code 1 = .ok (.ifnonnull 12, 3) := by decide +kernel
theorem drnn_13 : decode jdk_31_method_11_code 13 = .ok (.aload_n 0, 1) := by decide +kernel
theorem drnn_14 : decode jdk_31_method_11_code 14 = .ok (.areturn, 1) := by decide +kernel
abbrev brnn : wkB := (⟨"java/util/Objects", "requireNonNull", "(Ljava/lang/Object;Ljava/lang/String;)Ljava/lang/Object;"⟩, jdk_31_method_11_code, 2, (some (.object "java/lang/Object")))
theorem dshI_0 : decode prog_47_method_1_code 0 = .ok (.aload_n 0, 1) := by decide +kernel
theorem dshI_1 : decode prog_47_method_1_code 1 = .ok (.invokespecial 1, 3) := by decide +kernel
theorem dshI_4 : decode prog_47_method_1_code 4 = .ok (.aload_n 0, 1) := by decide +kernel
theorem dshI_5 : decode prog_47_method_1_code 5 = .ok (.aload_n 1, 1) := by decide +kernel
theorem dshI_6 : decode prog_47_method_1_code 6 = .ok (.ldc 7, 2) := by decide +kernel
theorem dshI_8 : decode prog_47_method_1_code 8 = .ok (.invokestatic 9, 3) := by decide +kernel
theorem dshI_11 : decode prog_47_method_1_code 11 = .ok (.checkcast 15, 3) := by decide +kernel
theorem dshI_14 : decode prog_47_method_1_code 14 = .ok (.putfield 17, 3) := by decide +kernel
theorem dshI_17 : decode prog_47_method_1_code 17 = .ok (.aload_n 0, 1) := by decide +kernel
theorem dshI_18 : decode prog_47_method_1_code 18 = .ok (.aload_n 2, 1) := by decide +kernel
theorem dshI_19 : decode prog_47_method_1_code 19 = .ok (.ldc 22, 2) := by decide +kernel
theorem dshI_21 : decode prog_47_method_1_code 21 = .ok (.invokestatic 9, 3) := by decide +kernel
theorem dshI_24 : decode prog_47_method_1_code 24 = .ok (.checkcast 15, 3) := by decide +kernel
theorem dshI_27 : decode prog_47_method_1_code 27 = .ok (.putfield 24, 3) := by decide +kernel
theorem dshI_30 : decode prog_47_method_1_code 30 = .ok (.return_, 1) := by decide +kernel
abbrev bshI : wkB := (⟨"com/example/axis3/axis3/model/Shard", "<init>", "(Ljava/lang/String;Ljava/lang/String;)V"⟩, prog_47_method_1_code, 3, none)
theorem dshE_0 : decode prog_47_method_4_code 0 = .ok (.aload_n 1, 1) := by decide +kernel
theorem dshE_1 : decode prog_47_method_4_code 1 = .ok (.instanceof 18, 3) := by decide +kernel
theorem dshE_4 : decode prog_47_method_4_code 4 = .ok (.ifCond .eq 41, 3) := by decide +kernel
theorem dshE_7 : decode prog_47_method_4_code 7 = .ok (.aload_n 1, 1) := by decide +kernel
theorem dshE_8 : decode prog_47_method_4_code 8 = .ok (.checkcast 18, 3) := by decide +kernel
theorem dshE_11 : decode prog_47_method_4_code 11 = .ok (.getfield 17, 3) := by decide +kernel
theorem dshE_14 : decode prog_47_method_4_code 14 = .ok (.aload_n 0, 1) := by decide +kernel
theorem dshE_15 : decode prog_47_method_4_code 15 = .ok (.getfield 17, 3) := by decide +kernel
theorem dshE_18 : decode prog_47_method_4_code 18 = .ok (.invokevirtual 26, 3) := by decide +kernel
theorem dshE_21 : decode prog_47_method_4_code 21 = .ok (.ifCond .eq 24, 3) := by decide +kernel
theorem dshE_24 : decode prog_47_method_4_code 24 = .ok (.aload_n 1, 1) := by decide +kernel
theorem dshE_25 : decode prog_47_method_4_code 25 = .ok (.checkcast 18, 3) := by decide +kernel
theorem dshE_28 : decode prog_47_method_4_code 28 = .ok (.getfield 24, 3) := by decide +kernel
theorem dshE_31 : decode prog_47_method_4_code 31 = .ok (.aload_n 0, 1) := by decide +kernel
theorem dshE_32 : decode prog_47_method_4_code 32 = .ok (.getfield 24, 3) := by decide +kernel
theorem dshE_35 : decode prog_47_method_4_code 35 = .ok (.invokevirtual 26, 3) := by decide +kernel
theorem dshE_38 : decode prog_47_method_4_code 38 = .ok (.ifCond .eq 7, 3) := by decide +kernel
theorem dshE_41 : decode prog_47_method_4_code 41 = .ok (.iconst 1, 1) := by decide +kernel
theorem dshE_42 : decode prog_47_method_4_code 42 = .ok (.goto 4, 3) := by decide +kernel
theorem dshE_45 : decode prog_47_method_4_code 45 = .ok (.iconst 0, 1) := by decide +kernel
theorem dshE_46 : decode prog_47_method_4_code 46 = .ok (.ireturn, 1) := by decide +kernel
abbrev bshE : wkB := (⟨"com/example/axis3/axis3/model/Shard", "equals", "(Ljava/lang/Object;)Z"⟩, prog_47_method_4_code, 2, (some .boolean))
abbrev blaw : wkB := (⟨"com/example/axis3/axis3/model/ShardEqualsPinLaw", "law", "(IIIII)Z"⟩, code, 12, (some .boolean))
theorem sAtoms {Z : State} {a0 : Array Value} (hw : ∀ d ∈ tables_1, d.before a0 Z = true) : ∀ a ∈ Bundle.stringAtoms, a.before a0 Z = true := by
  intro a ha
  simp only [Bundle.stringAtoms, List.mem_cons, List.not_mem_nil, or_false] at ha
  rcases ha with rfl | rfl | rfl | rfl | rfl | rfl | rfl
  · exact (w15 hw)
  · exact (w16 hw)
  · exact (w17 hw)
  · exact (w18 hw)
  · exact (w19 hw)
  · exact (w20 hw)
  · exact (w21 hw)
abbrev rcmp5 : Room := { frames := 0, cells := 0, slots := 0, locals := 0 }
/-- compress: the chars below 256 go over, up to the first that isn't -/
def Qcmp5 (Z : State) (d : Addr) (cs : List Int32) (v : Option Value) (h' : Heap) (os : List Addr) : Prop := ∃ (i : Nat) (ys : List Int32), i ≤ cs.length ∧ v = some (.int (Int32.ofNat i)) ∧ os = [] ∧ Ia Z h' d .byte ys ∧ ys.length = cs.length ∧ (∀ j, j < i → ∃ c, cs[j]? = some c ∧ ¬ 255 < c ∧ ys[j]? = some (lo8 c)) ∧ (i < cs.length → ∃ c, cs[i]? = some c ∧ 255 < c)
set_option maxRecDepth 65536 in
set_option maxHeartbeats 4000000 in
theorem L_cmp5 (l : Launch) (Z : State) (a0 : Array Value) (g : G Z a0) (hs : Heap) (b d : Addr) (cs : List Int32) (hbd : @Ne Nat b d) (hl31 : cs.length < 2 ^ 31) : ∀ (r i : Nat) (h : Heap) (ds : List Int32) (o6 : Slot), One o6 → i + r = cs.length → Ia Z h b .char cs → Ia Z h d .byte ds → ds.length = cs.length → (∀ j, j < i → ∃ c, cs[j]? = some c ∧ ¬ 255 < c ∧ ds[j]? = some (lo8 c)) →
    wkP l Z bcmp5 rcmp5 hs [d] (Qcmp5 Z d cs) [d] h 0 0 3 #[.val (.ref b), .val (.int (Int32.ofNat i)), .val (.ref d), .val (.int (Int32.ofNat i)), .val (.int (Int32.ofNat cs.length)), .val (.int (Int32.ofNat i)), o6] [] := by
  intro r
  induction r with
  | zero =>
    intro i h ds o6 ho6 hir F D hds hj
    have hi31 : i < 2 ^ 31 := by omega
    refine wkP.iload 5 dcmp5_3 rfl rfl ?_
    refine wkP.iload 7 dcmp5_5 rfl rfl ?_
    refine wkP.icmpT 44 dcmp5_7 (show ¬ (Int32.ofNat i) < (Int32.ofNat cs.length) from (by rw [ofNat_lt hi31 hl31]; omega)) (by decide) (by decide) ?_
    refine wkP.iload 46 dcmp5_44 rfl rfl ?_
    exact wkP.retI .int [] g.2.1 dcmp5_46 rfl (by simp) rfl (by decide) (by decide) (by simp) ⟨i, ds, by omega, by rw [show cs.length = i by omega], rfl, D, hds, hj, fun q => absurd q (by omega)⟩
  | succ r ih =>
    intro i h ds o6 ho6 hir F D hds hj
    have hi31 : i < 2 ^ 31 := by omega
    refine wkP.iload 5 dcmp5_3 rfl rfl ?_
    refine wkP.iload 7 dcmp5_5 rfl rfl ?_
    refine wkP.icmpF 10 dcmp5_7 (show ¬ (¬ (Int32.ofNat i) < (Int32.ofNat cs.length)) from (fun q => q ((ofNat_lt hi31 hl31).mpr (by omega)))) rfl ?_
    refine wkP.aloadN 11 dcmp5_10 rfl rfl rfl ?_
    refine wkP.iloadN 12 dcmp5_11 rfl rfl ?_
    obtain ⟨c, hc⟩ : ∃ c, cs[i]? = some c := ⟨_, List.getElem?_eq_getElem (show i < cs.length by omega)⟩
    refine wkP.caload 13 i c F dcmp5_12 (toI hi31) hc rfl ?_
    refine wkP.istore 15 #[.val (.ref b), .val (.int (Int32.ofNat i)), .val (.ref d), .val (.int (Int32.ofNat i)), .val (.int (Int32.ofNat cs.length)), .val (.int (Int32.ofNat i)), .val (.int c)] dcmp5_13 (XS.store1 rfl ho6 rfl) rfl ?_
    refine wkP.iload 17 dcmp5_15 rfl rfl ?_
    refine wkP.sipush 20 (255 : Int32) dcmp5_17 rfl rfl ?_
    by_cases hq : (255 : Int32) < c
    · refine wkP.icmpF 23 dcmp5_20 (show ¬ (¬ (255 : Int32) < c) from (fun q => q hq)) rfl ?_
      refine wkP.iload 25 dcmp5_23 rfl rfl ?_
      exact wkP.retI .int [] g.2.1 dcmp5_25 rfl (by simp) rfl (by decide) (by decide) (by simp) ⟨i, ds, by omega, rfl, rfl, D, hds, hj, fun _ => ⟨c, hc, hq⟩⟩
    · refine wkP.icmpT 26 dcmp5_20 (show ¬ (255 : Int32) < c from hq) (by decide) (by decide) ?_
      refine wkP.aloadN 27 dcmp5_26 rfl rfl rfl ?_
      refine wkP.iloadN 28 dcmp5_27 rfl rfl ?_
      refine wkP.iload 30 dcmp5_28 rfl rfl ?_
      refine wkP.i2b 31 (lo8 c) dcmp5_30 rfl rfl ?_
      refine wkP.stB 32 i (lo8 c) D dcmp5_31 (toI hi31) (by omega) (nar_lo8 c) (by simp) rfl ?_
      intro h1 K1 A1
      refine wkP.iinc 35 (Int32.ofNat (i + 1)) #[.val (.ref b), .val (.int (Int32.ofNat (i + 1))), .val (.ref d), .val (.int (Int32.ofNat i)), .val (.int (Int32.ofNat cs.length)), .val (.int (Int32.ofNat i)), .val (.int c)] dcmp5_32 rfl (inc1 i) rfl rfl ?_
      refine wkP.iinc 38 (Int32.ofNat (i + 1)) #[.val (.ref b), .val (.int (Int32.ofNat (i + 1))), .val (.ref d), .val (.int (Int32.ofNat (i + 1))), .val (.int (Int32.ofNat cs.length)), .val (.int (Int32.ofNat i)), .val (.int c)] dcmp5_35 rfl (inc1 i) rfl rfl ?_
      refine wkP.iinc 41 (Int32.ofNat (i + 1)) #[.val (.ref b), .val (.int (Int32.ofNat (i + 1))), .val (.ref d), .val (.int (Int32.ofNat (i + 1))), .val (.int (Int32.ofNat cs.length)), .val (.int (Int32.ofNat (i + 1))), .val (.int c)] dcmp5_38 rfl (inc1 i) rfl rfl ?_
      refine wkP.goto 3 dcmp5_41 (by decide) (by decide) ?_
      refine ih (i + 1) h1 (ds.set i (lo8 c)) _ (One.val rfl) (by omega) (F.keep K1 (nn1 hbd)) A1 (by simpa using hds) ?_
      intro j hj1
      by_cases hji : j = i
      · subst hji; exact ⟨c, hc, hq, by simp [show j < ds.length by omega]⟩
      · obtain ⟨c', q1, q2, q3⟩ := hj j (by omega); exact ⟨c', q1, q2, by rw [List.getElem?_set_ne (Ne.symm hji)]; exact q3⟩
set_option maxRecDepth 65536 in
set_option maxHeartbeats 4000000 in
theorem M_cmp5 (l : Launch) (Z : State) (a0 : Array Value) (g : G Z a0) (h : Heap) (b d : Addr) (cs ds : List Int32) (F : Ia Z h b .char cs) (D : Ia Z h d .byte ds) (hl : ds.length = cs.length) : wkM l Z bcmp5 rcmp5 #[.ref b, .int 0, .ref d, .int 0, .int (Int32.ofNat cs.length)] h [d] (Qcmp5 Z d cs) := by
  refine wkM.of #[.val (.ref b), .val (.int (0 : Int32)), .val (.ref d), .val (.int (0 : Int32)), .val (.int (Int32.ofNat cs.length)), .unset, .unset] (plainFor_of_name (by first | (simp [plainName, overriddenIn]; done) | decide +kernel)) (fun m => by first | rfl | (simp [entryFrame, mkF, argsToLocals, Value.category]; done)) ?_
  refine wkP.iconst 1 (0 : Int32) dcmp5_0 rfl rfl ?_
  refine wkP.istore 3 #[.val (.ref b), .val (.int (0 : Int32)), .val (.ref d), .val (.int (0 : Int32)), .val (.int (Int32.ofNat cs.length)), .val (.int (0 : Int32)), .unset] dcmp5_1 rfl rfl ?_
  exact L_cmp5 l Z a0 g h b d cs (F.ne D (by decide)) F.len cs.length 0 h ds .unset One.u (by omega) F D hl (fun j hj => absurd hj (by omega))
abbrev rcodL : Room := { frames := 0, cells := 0, slots := 0, locals := 0 }
set_option maxRecDepth 65536 in
set_option maxHeartbeats 4000000 in
theorem M_codL (l : Launch) (Z : State) (a0 : Array Value) (g : G Z a0) (h : Heap) (b : Addr) (ys : List Int32) (n : Nat) (F : Ia Z h b .byte ys) (hn : ys.length = n) : wkM l Z bcodL rcodL #[.ref b, .int (Int32.ofNat n)] h [] (fun v h' os => v = some (.int 0) ∧ os = [] ∧ h' = h) := by
  refine wkM.of #[.val (.ref b), .val (.int (Int32.ofNat n))] (plainFor_of_name (by first | (simp [plainName, overriddenIn]; done) | decide +kernel)) (fun m => by first | rfl | (simp [entryFrame, mkF, argsToLocals, Value.category]; done)) ?_
  refine wkP.iloadN 1 dcodL_0 rfl rfl ?_
  refine wkP.aloadN 2 dcodL_1 rfl rfl rfl ?_
  refine wkP.alen 3 (Int32.ofNat n) F dcodL_2 (by rw [hn]) rfl ?_
  refine wkP.isub 4 (0 : Int32) dcodL_3 (by simp) rfl ?_
  refine wkP.bipush 6 (31 : Int32) dcodL_4 rfl rfl ?_
  refine wkP.iushr 7 (0 : Int32) dcodL_6 (by decide) rfl ?_
  refine wkP.i2b 8 (0 : Int32) dcodL_7 (by decide) rfl ?_
  exact wkP.retI .byte [] g.2.1 dcodL_8 rfl (by simp) rfl (by decide) (by decide) (by simp) ⟨rfl, rfl, rfl⟩
abbrev rcmp3 : Room := { frames := 1, cells := 1, slots := 2, locals := 18 }
set_option maxRecDepth 65536 in
set_option maxHeartbeats 4000000 in
theorem M_cmp3 (l : Launch) (Z : State) (a0 : Array Value) (g : G Z a0) (h : Heap) (b : Addr) (cs : List Int32) (F : Ia Z h b .char cs) (hlat : lat cs) (hcap : cs.length ≤ 2) : wkM l Z bcmp3 rcmp3 #[.ref b, .int 0, .int (Int32.ofNat cs.length)] h [] (fun v h' os => ∃ d, v = some (.ref d) ∧ h.size ≤ d ∧ os = [d] ∧ Ia Z h' d .byte (cs.map lo8)) := by
  refine wkM.of #[.val (.ref b), .val (.int (0 : Int32)), .val (.int (Int32.ofNat cs.length)), .unset, .unset, .unset] (plainFor_of_name (by first | (simp [plainName, overriddenIn]; done) | decide +kernel)) (fun m => by first | rfl | (simp [entryFrame, mkF, argsToLocals, Value.category]; done)) ?_
  refine wkP.iloadN 1 dcmp3_0 rfl rfl ?_
  refine wkP.newP 3 .byte cs.length 2 (w17 g.1) rfl rfl rfl dcmp3_1 (toI F.len) (by omega) (by decide) (by decide) (by decide) rfl ?_
  intro h2 a2 g2 l2 K2 A2
  have z2 := K2.1
  refine wkP.astoreN 4 #[.val (.ref b), .val (.int (0 : Int32)), .val (.int (Int32.ofNat cs.length)), .val (.ref a2), .unset, .unset] dcmp3_3 rfl rfl rfl ?_
  refine wkP.aloadN 5 dcmp3_4 rfl rfl rfl ?_
  refine wkP.iloadN 6 dcmp3_5 rfl rfl ?_
  refine wkP.aloadN 7 dcmp3_6 rfl rfl rfl ?_
  refine wkP.iconst 8 (0 : Int32) dcmp3_7 rfl rfl ?_
  refine wkP.iloadN 9 dcmp3_8 rfl rfl ?_
  have F_3 := (F.keep K2 nn0)
  refine wkP.callS 12 (M_cmp5 l Z a0 g _ b a2 cs _ F_3 A2 (by simp)) [(.ref b), (.int (0 : Int32)), (.ref a2), (.int (0 : Int32)), (.int (Int32.ofNat cs.length))] [] 0 g.2.1 (w68 g.1) (w69 g.1) (w66 g.1) (w70 g.1) (by decide) dcmp3_9 (lenOf pd0 rfl) rfl rfl rfl (by simp) (Nat.le_of_eq rfl) (by decide) (by decide) (by decide) (by decide) rfl ?_
  rintro v4 h4 o4 ⟨i, ys, hi, rfl, rfl, A4, hy, hj, hno⟩ K4
  have z4 := K4.1
  have hil : i = cs.length := by
    rcases Nat.lt_or_ge i cs.length with q | q
    · obtain ⟨c, c1, c2⟩ := hno q; exact absurd c2 (hlat c (List.mem_of_getElem? c1)).2
    · omega
  subst hil
  have hys : ys = cs.map lo8 := by
    refine List.ext_getElem? fun j => ?_
    rcases Nat.lt_or_ge j cs.length with q | q
    · obtain ⟨c, c1, -, c2⟩ := hj j q; rw [c2]; simp [c1]
    · rw [List.getElem?_eq_none (by omega), List.getElem?_eq_none (by simpa using q)]
  subst hys
  refine wkP.istore 14 #[.val (.ref b), .val (.int (0 : Int32)), .val (.int (Int32.ofNat cs.length)), .val (.ref a2), .val (.int (Int32.ofNat cs.length)), .unset] dcmp3_12 rfl rfl ?_
  refine wkP.iload 16 dcmp3_14 rfl rfl ?_
  refine wkP.iloadN 17 dcmp3_16 rfl rfl ?_
  refine wkP.icmpT 57 dcmp3_17 (show (Int32.ofNat cs.length) = (Int32.ofNat cs.length) from rfl) (by decide) (by decide) ?_
  refine wkP.aloadN 58 dcmp3_57 rfl rfl rfl ?_
  exact wkP.retA (.array .byte) [a2] g.2.1 dcmp3_58 rfl rfl (by decide) (by decide) (by simp) ⟨a2, rfl, by omega, rfl, A4⟩
abbrev rinit4 : Room := { frames := 2, cells := 1, slots := 2, locals := 35 }
set_option maxRecDepth 65536 in
set_option maxHeartbeats 4000000 in
theorem M_init4 (l : Launch) (Z : State) (a0 : Array Value) (g : G Z a0) (h : Heap) (a b : Addr) (cs : List Int32) (F : Ia Z h b .char cs) (hlat : lat cs) (hne : cs.length ≠ 0) (hcap : cs.length ≤ 2) (vc vv : Value) (E : Exa Z h a "java/lang/String") (FC : Fld Z h a "java/lang/String" "coder" "B" vc) (FV : Fld Z h a "java/lang/String" "value" "[B" vv) : wkM l Z binit4 rinit4 #[.ref a, .ref b, .int 0, .int (Int32.ofNat cs.length), .null] h [a] (fun v h' os => ∃ d, v = none ∧ h.size ≤ d ∧ os = [] ∧ SL Z h' a d cs) := by
  refine wkM.of #[.val (.ref a), .val (.ref b), .val (.int (0 : Int32)), .val (.int (Int32.ofNat cs.length)), .val .null, .unset] (plainFor_of_name (by first | (simp [plainName, overriddenIn]; done) | decide +kernel)) (fun m => by first | rfl | (simp [entryFrame, mkF, argsToLocals, Value.category]; done)) ?_
  obtain ⟨zc, hzc, hzn⟩ := g.2.2
  refine wkP.aloadN 1 dinit4_0 rfl rfl rfl ?_
  refine wkP.initO 4 (w62 g.1) (w26 g.1) (w27 g.1) dinit4_1 rfl (by decide) 0 (Nat.le_of_eq rfl) (by decide) rfl ?_
  refine wkP.iloadN 5 dinit4_4 rfl rfl ?_
  refine wkP.ifT 27 dinit4_5 (show ¬ (Int32.ofNat cs.length) = (0 : Int32) from (fun q => hne ((ofNat_inj F.len (by decide)).mp q))) (by decide) (by decide) ?_
  refine wkP.getS 30 (w63 g.1) hzc Via.refl dinit4_27 rfl ?_
  refine wkP.ifF 33 dinit4_30 (show ¬ (zc = (0 : Int32)) from hzn) rfl ?_
  refine wkP.aloadN 34 dinit4_33 rfl rfl rfl ?_
  refine wkP.iloadN 35 dinit4_34 rfl rfl ?_
  refine wkP.iloadN 36 dinit4_35 rfl rfl ?_
  refine wkP.callS 39 (M_cmp3 l Z a0 g _ b cs F hlat hcap) [(.ref b), (.int (0 : Int32)), (.int (Int32.ofNat cs.length))] [] 0 g.2.1 (w64 g.1) (w65 g.1) (w66 g.1) (w67 g.1) (by decide) dinit4_36 (lenOf pd1 rfl) rfl rfl rfl (by simp) (Nat.le_of_eq rfl) (by decide) (by decide) (by decide) (by decide) rfl ?_
  rintro v5 h5 o5 ⟨d5, rfl, gd5, rfl, A5⟩ K5
  have z5 := K5.1
  have ld5 := A5.lt
  have la := exaLt E
  refine wkP.astore 41 #[.val (.ref a), .val (.ref b), .val (.int (0 : Int32)), .val (.int (Int32.ofNat cs.length)), .val .null, .val (.ref d5)] dinit4_39 rfl rfl rfl ?_
  refine wkP.aloadN 42 dinit4_41 rfl rfl rfl ?_
  refine wkP.aload 44 dinit4_42 rfl rfl rfl ?_
  refine wkP.iloadN 45 dinit4_44 rfl rfl ?_
  have hl2 : (cs.map lo8).length = cs.length := by simp
  refine wkP.callS 48 (M_codL l Z a0 g _ d5 (cs.map lo8) cs.length A5 hl2) [(.ref d5), (.int (Int32.ofNat cs.length))] [(.ref a)] 1 g.2.1 (w71 g.1) (w72 g.1) (w66 g.1) (w73 g.1) (by decide) dinit4_45 (lenOf pd2 rfl) rfl rfl rfl (by simp) (Nat.le_of_eq rfl) (by decide) (by decide) (by decide) (by decide) rfl ?_
  rintro v6 _ o6 ⟨rfl, rfl, rfl⟩ K6
  have FC_7 := (FC.keep K5 nn0)
  have E_8 := (E.keep K5)
  have FV_9 := (FV.keep K5 nn0)
  refine wkP.putF 51 (w74 g.1) FC_7 E_8 (Or.inr ⟨(w19 g.1), rfl, rfl⟩) (w16 g.1) (ty := .byte) (by decide) rfl rfl dinit4_48 (by simp) rfl ?_
  intro h10 K10 W10
  have z10 := K10.1
  have F10 := Fld.same W10 FC_7
  have E10 := Exa.wr W10 E_8
  have F11 := Fld.other W10 FV_9 (Or.inr (slot_ne (t := (.array .byte)) (t' := .byte) (Or.inr (w18 g.1)) (Or.inr (w19 g.1)) (by decide) (by decide) (by decide)))
  refine wkP.aloadN 52 dinit4_51 rfl rfl rfl ?_
  refine wkP.aload 54 dinit4_52 rfl rfl rfl ?_
  refine wkP.putF 57 (w75 g.1) F11 E10 (Or.inr ⟨(w18 g.1), rfl, rfl⟩) (w16 g.1) (ty := (.array .byte)) (by decide) rfl rfl dinit4_54 (by simp) rfl ?_
  intro h12 K12 W12
  have z12 := K12.1
  have F12 := Fld.same W12 F11
  have E12 := Exa.wr W12 E10
  have F13 := Fld.other W12 F10 (Or.inr (slot_ne (t := .byte) (t' := (.array .byte)) (Or.inr (w19 g.1)) (Or.inr (w18 g.1)) (by decide) (by decide) (by decide)))
  have A5_14 := ((A5.keep K10 (nnS (by omega) nn0)).keep K12 (nnS (by omega) nn0))
  exact wkP.ret0 [] g.2.1 dinit4_57 rfl (by decide) (by decide) (by simp) ⟨d5, rfl, by omega, rfl, E12, F13, F12, A5_14, hlat⟩
abbrev rinit1 : Room := { frames := 3, cells := 1, slots := 2, locals := 52 }
set_option maxRecDepth 65536 in
set_option maxHeartbeats 4000000 in
theorem M_init1 (l : Launch) (Z : State) (a0 : Array Value) (g : G Z a0) (h : Heap) (a b : Addr) (cs : List Int32) (F : Ia Z h b .char cs) (hlat : lat cs) (hne : cs.length ≠ 0) (hcap : cs.length ≤ 2) (vc vv : Value) (E : Exa Z h a "java/lang/String") (FC : Fld Z h a "java/lang/String" "coder" "B" vc) (FV : Fld Z h a "java/lang/String" "value" "[B" vv) : wkM l Z binit1 rinit1 #[.ref a, .ref b] h [a] (fun v h' os => ∃ d, v = none ∧ h.size ≤ d ∧ os = [] ∧ SL Z h' a d cs) := by
  refine wkM.of #[.val (.ref a), .val (.ref b)] (plainFor_of_name (by first | (simp [plainName, overriddenIn]; done) | decide +kernel)) (fun m => by first | rfl | (simp [entryFrame, mkF, argsToLocals, Value.category]; done)) ?_
  refine wkP.aloadN 1 dinit1_0 rfl rfl rfl ?_
  refine wkP.aloadN 2 dinit1_1 rfl rfl rfl ?_
  refine wkP.iconst 3 (0 : Int32) dinit1_2 rfl rfl ?_
  refine wkP.aloadN 4 dinit1_3 rfl rfl rfl ?_
  refine wkP.alen 5 (Int32.ofNat cs.length) F dinit1_4 rfl rfl ?_
  refine wkP.anull 6 dinit1_5 rfl ?_
  refine wkP.callI 9 (M_init4 l Z a0 g _ a b cs F hlat hne hcap vc vv E FC FV) [(.ref b), (.int (0 : Int32)), (.int (Int32.ofNat cs.length)), .null] [] 0 g.2.1 (w59 g.1) (w60 g.1) (w15 g.1) (w61 g.1) rfl rfl (by decide) dinit1_6 (lenOf pd3 rfl) rfl rfl rfl (by simp) (Nat.le_of_eq rfl) (by decide) (by decide) (by decide) (by decide) rfl ?_
  rintro v15 h15 o15 ⟨d, rfl, gd, rfl, H⟩ K15
  have z15 := K15.1
  exact wkP.ret0 [] g.2.1 dinit1_9 rfl (by decide) (by decide) (by simp) ⟨d, rfl, gd, rfl, H⟩
abbrev rcanE : Room := { frames := 0, cells := 0, slots := 0, locals := 0 }
set_option maxRecDepth 65536 in
set_option maxHeartbeats 4000000 in
theorem M_canE (l : Launch) (Z : State) (a0 : Array Value) (g : G Z a0) (h : Heap) (c : Int32) (hc : ¬ 255 < c) : wkM l Z bcanE rcanE #[.int c] h [] (fun v h' os => v = some (.int 1) ∧ os = [] ∧ h' = h) := by
  refine wkM.of #[.val (.int c)] (plainFor_of_name (by first | (simp [plainName, overriddenIn]; done) | decide +kernel)) (fun m => by first | rfl | (simp [entryFrame, mkF, argsToLocals, Value.category]; done)) ?_
  refine wkP.iloadN 1 dcanE_0 rfl rfl ?_
  refine wkP.sipush 4 (255 : Int32) dcanE_1 rfl rfl ?_
  refine wkP.icmpF 7 dcanE_4 (show ¬ ((255 : Int32) < c) from hc) rfl ?_
  refine wkP.iconst 8 (1 : Int32) dcanE_7 rfl rfl ?_
  refine wkP.goto 12 dcanE_8 (by decide) (by decide) ?_
  exact wkP.retI .boolean [] g.2.1 dcanE_12 rfl (by simp) rfl (by decide) (by decide) (by simp) ⟨rfl, rfl, rfl⟩
abbrev rtoB : Room := { frames := 0, cells := 1, slots := 1, locals := 0 }
set_option maxRecDepth 65536 in
set_option maxHeartbeats 4000000 in
theorem M_toB (l : Launch) (Z : State) (a0 : Array Value) (g : G Z a0) (h : Heap) (c : Int32) : wkM l Z btoB rtoB #[.int c] h [] (fun v h' os => ∃ d, v = some (.ref d) ∧ h.size ≤ d ∧ os = [d] ∧ Ia Z h' d .byte [lo8 c]) := by
  refine wkM.of #[.val (.int c)] (plainFor_of_name (by first | (simp [plainName, overriddenIn]; done) | decide +kernel)) (fun m => by first | rfl | (simp [entryFrame, mkF, argsToLocals, Value.category]; done)) ?_
  refine wkP.iconst 1 (1 : Int32) dtoB_0 rfl rfl ?_
  refine wkP.newP 3 .byte 1 1 (w17 g.1) rfl rfl rfl dtoB_1 rfl (by decide) (by decide) (by decide) (by decide) rfl ?_
  intro h16 a16 g16 l16 K16 A16
  have z16 := K16.1
  replace A16 : Ia Z h16 a16 .byte [(0 : Int32)] := A16
  refine wkP.dup 4 dtoB_3 rfl rfl ?_
  refine wkP.iconst 5 (0 : Int32) dtoB_4 rfl rfl ?_
  refine wkP.iloadN 6 dtoB_5 rfl rfl ?_
  refine wkP.i2b 7 (lo8 c) dtoB_6 rfl rfl ?_
  refine wkP.stB 8 0 (lo8 c) A16 dtoB_7 rfl (by simp) (nar_lo8 c) (by simp) rfl ?_
  intro h17 K17 A17
  have z17 := K17.1
  replace A17 : Ia Z h17 a16 .byte [(lo8 c)] := A17
  exact wkP.retA (.array .byte) [a16] g.2.1 dtoB_8 rfl rfl (by decide) (by decide) (by simp) ⟨a16, rfl, by omega, rfl, A17⟩
abbrev rinitBB : Room := { frames := 1, cells := 0, slots := 0, locals := 12 }
set_option maxRecDepth 65536 in
set_option maxHeartbeats 4000000 in
theorem M_initBB (l : Launch) (Z : State) (a0 : Array Value) (g : G Z a0) (h : Heap) (a d : Addr) (cs : List Int32) (D : Ia Z h d .byte (cs.map lo8)) (hlat : lat cs) (hda : @Ne Nat d a) (vc vv : Value) (E : Exa Z h a "java/lang/String") (FC : Fld Z h a "java/lang/String" "coder" "B" vc) (FV : Fld Z h a "java/lang/String" "value" "[B" vv) : wkM l Z binitBB rinitBB #[.ref a, .ref d, .int 0] h [a] (fun v h' os => v = none ∧ os = [] ∧ SL Z h' a d cs) := by
  refine wkM.of #[.val (.ref a), .val (.ref d), .val (.int (0 : Int32))] (plainFor_of_name (by first | (simp [plainName, overriddenIn]; done) | decide +kernel)) (fun m => by first | rfl | (simp [entryFrame, mkF, argsToLocals, Value.category]; done)) ?_
  refine wkP.aloadN 1 dinitBB_0 rfl rfl rfl ?_
  refine wkP.initO 4 (w62 g.1) (w26 g.1) (w27 g.1) dinitBB_1 rfl (by decide) 0 (Nat.le_of_eq rfl) (by decide) rfl ?_
  refine wkP.aloadN 5 dinitBB_4 rfl rfl rfl ?_
  refine wkP.aloadN 6 dinitBB_5 rfl rfl rfl ?_
  refine wkP.putF 9 (w75 g.1) FV E (Or.inr ⟨(w18 g.1), rfl, rfl⟩) (w16 g.1) (ty := (.array .byte)) (by decide) rfl rfl dinitBB_6 (by simp) rfl ?_
  intro h18 K18 W18
  have z18 := K18.1
  have F18 := Fld.same W18 FV
  have E18 := Exa.wr W18 E
  have F19 := Fld.other W18 FC (Or.inr (slot_ne (t := .byte) (t' := (.array .byte)) (Or.inr (w19 g.1)) (Or.inr (w18 g.1)) (by decide) (by decide) (by decide)))
  refine wkP.aloadN 10 dinitBB_9 rfl rfl rfl ?_
  refine wkP.iloadN 11 dinitBB_10 rfl rfl ?_
  refine wkP.putF 14 (w74 g.1) F19 E18 (Or.inr ⟨(w19 g.1), rfl, rfl⟩) (w16 g.1) (ty := .byte) (by decide) rfl rfl dinitBB_11 (by simp) rfl ?_
  intro h20 K20 W20
  have z20 := K20.1
  have F20 := Fld.same W20 F19
  have E20 := Exa.wr W20 E18
  have F21 := Fld.other W20 F18 (Or.inr (slot_ne (t := (.array .byte)) (t' := .byte) (Or.inr (w18 g.1)) (Or.inr (w19 g.1)) (by decide) (by decide) (by decide)))
  have D_22 := ((D.keep K18 (nnS hda nn0)).keep K20 (nnS hda nn0))
  exact wkP.ret0 [] g.2.1 dinitBB_14 rfl (by decide) (by decide) (by simp) ⟨rfl, rfl, E20, F20, F21, D_22, hlat⟩
abbrev rvalC : Room := { frames := 2, cells := 2, slots := 5, locals := 27 }
set_option maxRecDepth 65536 in
set_option maxHeartbeats 4000000 in
theorem M_valC (l : Launch) (Z : State) (a0 : Array Value) (g : G Z a0) (h : Heap) (c : Int32) (hc : ¬ c < 0 ∧ ¬ 255 < c) : wkM l Z bvalC rvalC #[.int c] h [] (fun v h' os => ∃ a d, v = some (.ref a) ∧ h.size ≤ a ∧ h.size ≤ d ∧ os = [] ∧ SL Z h' a d [c]) := by
  refine wkM.of #[.val (.int c)] (plainFor_of_name (by first | (simp [plainName, overriddenIn]; done) | decide +kernel)) (fun m => by first | rfl | (simp [entryFrame, mkF, argsToLocals, Value.category]; done)) ?_
  obtain ⟨zc, hzc, hzn⟩ := g.2.2
  refine wkP.getS 3 (w63 g.1) hzc Via.refl dvalC_0 rfl ?_
  refine wkP.ifF 6 dvalC_3 (show ¬ (zc = (0 : Int32)) from hzn) rfl ?_
  refine wkP.iloadN 7 dvalC_6 rfl rfl ?_
  refine wkP.callS 10 (M_canE l Z a0 g _ c hc.2) [(.int c)] [] 0 g.2.1 (w79 g.1) (w80 g.1) (w81 g.1) (w82 g.1) (by decide) dvalC_7 (lenOf pd4 rfl) rfl rfl rfl (by simp) (Nat.le_of_eq rfl) (by decide) (by decide) (by decide) (by decide) rfl ?_
  rintro v23 _ o23 ⟨rfl, rfl, rfl⟩ K23
  refine wkP.ifF 13 dvalC_10 (show ¬ ((1 : Int32) = (0 : Int32)) from (by decide)) rfl ?_
  refine wkP.newO 16 (w83 g.1) (w16 g.1) (w15 g.1) dvalC_13 (by decide) (by decide) rfl ?_
  intro h24 a24 g24 l24 K24 E24 D24 U24
  have z24 := K24.1
  have F25 := D24 (Or.inr (w19 g.1)) (ty := .byte) (by decide)
  have F26 := D24 (Or.inr (w18 g.1)) (ty := (.array .byte)) (by decide)
  refine wkP.dup 17 dvalC_16 rfl rfl ?_
  refine wkP.iloadN 18 dvalC_17 rfl rfl ?_
  refine wkP.callS 21 (M_toB l Z a0 g _ c) [(.int c)] [(.ref a24), (.ref a24)] 2 g.2.1 (w84 g.1) (w85 g.1) (w81 g.1) (w86 g.1) (by decide) dvalC_18 (lenOf pd5 rfl) rfl rfl rfl (by simp) (Nat.le_of_eq rfl) (by decide) (by decide) (by decide) (by decide) rfl ?_
  rintro v27 h27 o27 ⟨d, rfl, gd, rfl, A27⟩ K27
  have z27 := K27.1
  have ld := A27.lt
  refine wkP.iconst 22 (0 : Int32) dvalC_21 rfl rfl ?_
  have E24_28 := (E24.keep K27)
  have F25_29 := (F25.keep K27 nn0)
  have F26_30 := (F26.keep K27 nn0)
  refine wkP.callI 25 (M_initBB l Z a0 g _ a24 d [c] A27 (fun x hx => by simp at hx; rw [hx]; exact hc) (by omega) _ _ E24_28 F25_29 F26_30) [(.ref d), (.int (0 : Int32))] [(.ref a24)] 1 g.2.1 (w87 g.1) (w88 g.1) (w15 g.1) (w89 g.1) rfl rfl (by decide) dvalC_22 (lenOf pd6 rfl) rfl rfl rfl (by simp) (Nat.le_of_eq rfl) (by decide) (by decide) (by decide) (by decide) rfl ?_
  rintro v31 h31 o31 ⟨rfl, rfl, H⟩ K31
  have z31 := K31.1
  exact wkP.retA (.object "java/lang/String") [] g.2.1 dvalC_25 rfl rfl (by decide) (by decide) (by simp) ⟨a24, d, rfl, by omega, by omega, rfl, H⟩
abbrev reqB : Room := { frames := 0, cells := 0, slots := 0, locals := 0 }
def QeqB (h : Heap) (xs ys : List Int32) (v : Option Value) (h' : Heap) (os : List Addr) : Prop := v = some (.int (if xs = ys then 1 else 0)) ∧ os = [] ∧ h' = h
set_option maxRecDepth 65536 in
set_option maxHeartbeats 4000000 in
theorem L_eqB (l : Launch) (Z : State) (a0 : Array Value) (g : G Z a0) (hs h : Heap) (a b : Addr) (xs ys : List Int32) (F : Ia Z h a .byte xs) (D : Ia Z h b .byte ys) (hl : xs.length = ys.length) : ∀ (r i : Nat), i + r = xs.length → (∀ j, j < i → xs[j]? = ys[j]?) →
    wkP l Z beqB reqB hs [] (QeqB h xs ys) [] h 0 0 9 #[.val (.ref a), .val (.ref b), .val (.int (Int32.ofNat i))] [] := by
  have hl31 := F.len
  intro r
  induction r with
  | zero =>
    intro i hir hj
    have hi31 : i < 2 ^ 31 := by omega
    refine wkP.iloadN 10 deqB_9 rfl rfl ?_
    refine wkP.aloadN 11 deqB_10 rfl rfl rfl ?_
    refine wkP.alen 12 (Int32.ofNat xs.length) F deqB_11 rfl rfl ?_
    refine wkP.icmpT 32 deqB_12 (show ¬ (Int32.ofNat i) < (Int32.ofNat xs.length) from (by rw [ofNat_lt hi31 F.len]; omega)) (by decide) (by decide) ?_
    refine wkP.iconst 33 (1 : Int32) deqB_32 rfl rfl ?_
    have e : xs = ys := by
      refine List.ext_getElem? fun j => ?_
      rcases Nat.lt_or_ge j xs.length with q | q
      · exact hj j (by omega)
      · rw [List.getElem?_eq_none q, List.getElem?_eq_none (by omega)]
    exact wkP.retI .boolean [] g.2.1 deqB_33 rfl (by simp) rfl (by decide) (by decide) (by simp) ⟨by rw [if_pos e], rfl, rfl⟩
  | succ r ih =>
    intro i hir hj
    have hi31 : i < 2 ^ 31 := by omega
    refine wkP.iloadN 10 deqB_9 rfl rfl ?_
    refine wkP.aloadN 11 deqB_10 rfl rfl rfl ?_
    refine wkP.alen 12 (Int32.ofNat xs.length) F deqB_11 rfl rfl ?_
    refine wkP.icmpF 15 deqB_12 (show ¬ (¬ (Int32.ofNat i) < (Int32.ofNat xs.length)) from (fun q => q ((ofNat_lt hi31 F.len).mpr (by omega)))) rfl ?_
    refine wkP.aloadN 16 deqB_15 rfl rfl rfl ?_
    refine wkP.iloadN 17 deqB_16 rfl rfl ?_
    obtain ⟨x, hx⟩ : ∃ c, xs[i]? = some c := ⟨_, List.getElem?_eq_getElem (show i < xs.length by omega)⟩
    obtain ⟨y, hy⟩ : ∃ c, ys[i]? = some c := ⟨_, List.getElem?_eq_getElem (show i < ys.length by omega)⟩
    refine wkP.baload 18 i x F deqB_17 (toI hi31) hx rfl ?_
    refine wkP.aloadN 19 deqB_18 rfl rfl rfl ?_
    refine wkP.iloadN 20 deqB_19 rfl rfl ?_
    refine wkP.baload 21 i y D deqB_20 (toI hi31) hy rfl ?_
    by_cases hq : x = y
    · refine wkP.icmpT 26 deqB_21 (show x = y from hq) (by decide) (by decide) ?_
      refine wkP.iinc 29 (Int32.ofNat (i + 1)) #[.val (.ref a), .val (.ref b), .val (.int (Int32.ofNat (i + 1)))] deqB_26 rfl (inc1 i) rfl rfl ?_
      refine wkP.goto 9 deqB_29 (by decide) (by decide) ?_
      refine ih (i + 1) (by omega) ?_
      intro j hj1
      by_cases hji : j = i
      · rw [hji, hx, hy, hq]
      · exact hj j (by omega)
    · refine wkP.icmpF 24 deqB_21 (show ¬ (x = y) from hq) rfl ?_
      refine wkP.iconst 25 (0 : Int32) deqB_24 rfl rfl ?_
      exact wkP.retI .boolean [] g.2.1 deqB_25 rfl (by simp) rfl (by decide) (by decide) (by simp) ⟨by rw [if_neg (fun q => hq (by rw [q, hy] at hx; exact (Option.some.inj hx).symm))], rfl, rfl⟩
set_option maxRecDepth 65536 in
set_option maxHeartbeats 4000000 in
theorem M_eqB (l : Launch) (Z : State) (a0 : Array Value) (g : G Z a0) (h : Heap) (a b : Addr) (xs ys : List Int32) (F : Ia Z h a .byte xs) (D : Ia Z h b .byte ys) : wkM l Z beqB reqB #[.ref a, .ref b] h [] (QeqB h xs ys) := by
  refine wkM.of #[.val (.ref a), .val (.ref b), .unset] (plainFor_of_name (by first | (simp [plainName, overriddenIn]; done) | decide +kernel)) (fun m => by first | rfl | (simp [entryFrame, mkF, argsToLocals, Value.category]; done)) ?_
  refine wkP.aloadN 1 deqB_0 rfl rfl rfl ?_
  refine wkP.alen 2 (Int32.ofNat xs.length) F deqB_1 rfl rfl ?_
  refine wkP.aloadN 3 deqB_2 rfl rfl rfl ?_
  refine wkP.alen 4 (Int32.ofNat ys.length) D deqB_3 rfl rfl ?_
  by_cases hq : (Int32.ofNat xs.length) = (Int32.ofNat ys.length)
  · refine wkP.icmpF 7 deqB_4 (show ¬ (¬ (Int32.ofNat xs.length) = (Int32.ofNat ys.length)) from (fun q => q hq)) rfl ?_
    refine wkP.iconst 8 (0 : Int32) deqB_7 rfl rfl ?_
    refine wkP.istoreN 9 #[.val (.ref a), .val (.ref b), .val (.int (0 : Int32))] deqB_8 rfl rfl ?_
    exact L_eqB l Z a0 g h h a b xs ys F D ((ofNat_inj F.len D.len).mp hq) xs.length 0 (by omega) (fun j hj => absurd hj (by omega))
  · refine wkP.icmpT 34 deqB_4 (show ¬ (Int32.ofNat xs.length) = (Int32.ofNat ys.length) from hq) (by decide) (by decide) ?_
    refine wkP.iconst 35 (0 : Int32) deqB_34 rfl rfl ?_
    exact wkP.retI .boolean [] g.2.1 deqB_35 rfl (by simp) rfl (by decide) (by decide) (by simp) ⟨by rw [if_neg (fun q => hq (by rw [q]))], rfl, rfl⟩
abbrev reqS : Room := { frames := 1, cells := 0, slots := 0, locals := 14 }
set_option maxRecDepth 65536 in
set_option maxHeartbeats 4000000 in
theorem M_eqSnull (l : Launch) (Z : State) (a0 : Array Value) (g : G Z a0) (h : Heap) (a : Addr) : wkM l Z beqS reqS #[.ref a, .null] h [] (fun v h' os => v = some (.int 0) ∧ os = [] ∧ h' = h) := by
  refine wkM.of #[.val (.ref a), .val .null, .unset] (plainFor_of_name (by first | (simp [plainName, overriddenIn]; done) | decide +kernel)) (fun m => by first | rfl | (simp [entryFrame, mkF, argsToLocals, Value.category]; done)) ?_
  refine wkP.aloadN 1 deqS_0 rfl rfl rfl ?_
  refine wkP.aloadN 2 deqS_1 rfl rfl rfl ?_
  refine wkP.acmp 7 false deqS_2 rfl rfl (by simp) (by decide) (by decide) ?_
  refine wkP.aloadN 8 deqS_7 rfl rfl rfl ?_
  refine wkP.instNull 11 deqS_8 rfl ?_
  refine wkP.ifT 54 deqS_11 (show (0 : Int32) = (0 : Int32) from (by decide)) (by decide) (by decide) ?_
  refine wkP.iconst 55 (0 : Int32) deqS_54 rfl rfl ?_
  exact wkP.retI .boolean [] g.2.1 deqS_55 rfl (by simp) rfl (by decide) (by decide) (by simp) ⟨rfl, rfl, rfl⟩
theorem same_text {Z : State} {h : Heap} {a b c d : Addr} {xs ys : List Int32} (F : SL Z h a b xs) (D : SL Z h c d ys) (e : a = c) : xs = ys := by
  subst e
  obtain ⟨-, -, f3, f4, f5⟩ := F
  obtain ⟨-, -, g3, g4, g5⟩ := D
  have e2 : b = d := by
    by_cases q : b = d
    · exact q
    · exact absurd rfl (Fld.ne f3 g3 (fun r => q (by injection r)))
  subst e2
  obtain ⟨c1, A1, s1, -⟩ := f4
  obtain ⟨c2, A2, s2, -⟩ := g4
  cases A1.1.symm.trans A2.1
  have q := s1.symm.trans s2
  have q2 : (xs.map lo8).map Value.int = (ys.map lo8).map Value.int := by simpa using q
  exact lat_map_inj f5 g5 ((List.map_inj_right (fun _ _ r => by injection r)).mp q2)
set_option maxRecDepth 65536 in
set_option maxHeartbeats 4000000 in
theorem M_eqS (l : Launch) (Z : State) (a0 : Array Value) (g : G Z a0) (h : Heap) (a b c d : Addr) (xs ys : List Int32) (F : SL Z h a b xs) (D : SL Z h c d ys) : wkM l Z beqS reqS #[.ref a, .ref c] h [] (fun v h' os => v = some (.int (if xs = ys then 1 else 0)) ∧ os = [] ∧ h' = h) := by
  refine wkM.of #[.val (.ref a), .val (.ref c), .unset] (plainFor_of_name (by first | (simp [plainName, overriddenIn]; done) | decide +kernel)) (fun m => by first | rfl | (simp [entryFrame, mkF, argsToLocals, Value.category]; done)) ?_
  obtain ⟨zc, hzc, hzn⟩ := g.2.2
  refine wkP.aloadN 1 deqS_0 rfl rfl rfl ?_
  refine wkP.aloadN 2 deqS_1 rfl rfl rfl ?_
  by_cases hac : a = c
  · refine wkP.acmp 5 true deqS_2 rfl rfl (by simp [hac]) (by decide) (by decide) ?_
    refine wkP.iconst 6 (1 : Int32) deqS_5 rfl rfl ?_
    have e : xs = ys := same_text F D hac
    exact wkP.retI .boolean [] g.2.1 deqS_6 rfl (by simp) rfl (by decide) (by decide) (by simp) ⟨by rw [if_pos e], rfl, rfl⟩
  · refine wkP.acmp 7 false deqS_2 rfl rfl (by simp [hac]) (by decide) (by decide) ?_
    refine wkP.aloadN 8 deqS_7 rfl rfl rfl ?_
    refine wkP.instY 11 (w83 g.1) (Ins.self D.1) deqS_8 rfl ?_
    refine wkP.ifF 14 deqS_11 (show ¬ ((1 : Int32) = (0 : Int32)) from (by decide)) rfl ?_
    refine wkP.aloadN 15 deqS_14 rfl rfl rfl ?_
    refine wkP.castY 18 (w83 g.1) (Ins.self D.1) deqS_15 rfl ?_
    refine wkP.astoreN 19 #[.val (.ref a), .val (.ref c), .val (.ref c)] deqS_18 rfl rfl rfl ?_
    refine wkP.getS 22 (w63 g.1) hzc Via.refl deqS_19 rfl ?_
    refine wkP.ifF 25 deqS_22 (show ¬ (zc = (0 : Int32)) from hzn) rfl ?_
    refine wkP.aloadN 26 deqS_25 rfl rfl rfl ?_
    refine wkP.getF 29 (w74 g.1) F.2.1 Via.refl deqS_26 rfl ?_
    refine wkP.aloadN 30 deqS_29 rfl rfl rfl ?_
    refine wkP.getF 33 (w74 g.1) D.2.1 Via.refl deqS_30 rfl ?_
    refine wkP.icmpF 36 deqS_33 (show ¬ (¬ (0 : Int32) = (0 : Int32)) from (by decide)) rfl ?_
    refine wkP.aloadN 37 deqS_36 rfl rfl rfl ?_
    refine wkP.getF 40 (w75 g.1) F.2.2.1 Via.refl deqS_37 rfl ?_
    refine wkP.aloadN 41 deqS_40 rfl rfl rfl ?_
    refine wkP.getF 44 (w75 g.1) D.2.2.1 Via.refl deqS_41 rfl ?_
    refine wkP.callS 47 (M_eqB l Z a0 g _ b d _ _ F.2.2.2.1 D.2.2.2.1) [(.ref b), (.ref d)] [] 0 g.2.1 (w93 g.1) (w94 g.1) (w81 g.1) (w95 g.1) (by decide) deqS_44 (lenOf pd7 rfl) rfl rfl rfl (by simp) (Nat.le_of_eq rfl) (by decide) (by decide) (by decide) (by decide) rfl ?_
    rintro v32 _ o32 ⟨rfl, rfl, rfl⟩ K32
    by_cases hq : xs = ys
    · refine wkP.ifF 50 deqS_47 (show ¬ ((if xs.map lo8 = ys.map lo8 then 1 else 0) = (0 : Int32)) from (by rw [if_pos (by rw [hq])]; decide)) rfl ?_
      refine wkP.iconst 51 (1 : Int32) deqS_50 rfl rfl ?_
      refine wkP.goto 55 deqS_51 (by decide) (by decide) ?_
      exact wkP.retI .boolean [] g.2.1 deqS_55 rfl (by simp) rfl (by decide) (by decide) (by simp) ⟨by rw [if_pos hq], rfl, rfl⟩
    · refine wkP.ifT 54 deqS_47 (show (if xs.map lo8 = ys.map lo8 then 1 else 0) = (0 : Int32) from (by rw [if_neg (fun e => hq (lat_map_inj F.2.2.2.2 D.2.2.2.2 e))])) (by decide) (by decide) ?_
      refine wkP.iconst 55 (0 : Int32) deqS_54 rfl rfl ?_
      exact wkP.retI .boolean [] g.2.1 deqS_55 rfl (by simp) rfl (by decide) (by decide) (by simp) ⟨by rw [if_neg hq], rfl, rfl⟩
def l0 (x : Int32) : Int32 := (x.toUInt32 >>> ((16 : Int32) &&& 31).toUInt32).toInt32 &&& 3
def ln (x : Int32) : Int32 := if 2 < l0 x then 2 else l0 x
def k0 (x : Int32) : Int32 := x &&& 255
def k1 (x : Int32) : Int32 := (x.toUInt32 >>> ((8 : Int32) &&& 31).toUInt32).toInt32 &&& 255
theorem ln3 (x : Int32) : ln x = 0 ∨ ln x = 1 ∨ ln x = 2 := by
  have h := c_mask ((x.toUInt32 >>> ((16 : Int32) &&& 31).toUInt32).toInt32) 3 2 (by decide) (by decide)
  unfold ln
  split
  · exact Or.inr (Or.inr rfl)
  · rename_i q
    have h2 : (l0 x).toInt = ((x.toUInt32 >>> ((16 : Int32) &&& 31).toUInt32).toInt32).toInt % 4 := h
    rw [Int32.lt_iff_toInt_lt] at q
    simp only [← Int32.toInt_inj, Int32.reduceToInt] at q ⊢
    omega
theorem byte_rng (x : Int32) : ¬ (x &&& 255) < 0 ∧ ¬ 255 < (x &&& 255) := by
  have h := c_mask x 255 8 (by decide) (by decide)
  simp only [Int32.lt_iff_toInt_lt, Int32.reduceToInt]
  omega
def sOf (x : Int32) : List Int32 := if ln x = 0 then [] else if ln x = 1 then [k0 x] else [k0 x, k1 x]
theorem lat_sOf (x : Int32) : lat (sOf x) := by
  unfold sOf
  intro c hc
  split at hc
  · simp at hc
  · split at hc
    · simp at hc; rw [hc]; exact byte_rng _
    · simp at hc; rcases hc with rfl | rfl <;> exact byte_rng _
theorem nar_ch {x : Int32} (q : ¬ x < 0 ∧ ¬ 255 < x) : nar .char x = x := by
  show x.toUInt32.toUInt16.toUInt32.toInt32 = x
  have h := c_i2c x
  rw [← Int32.toInt_inj]
  simp only [Int32.lt_iff_toInt_lt, Int32.reduceToInt] at q
  omega
abbrev rmin : Room := { frames := 0, cells := 0, slots := 0, locals := 0 }
set_option maxRecDepth 65536 in
set_option maxHeartbeats 4000000 in
theorem M_min (l : Launch) (Z : State) (a0 : Array Value) (g : G Z a0) (h : Heap) (x y : Int32) : wkM l Z bmin rmin #[.int x, .int y] h [] (fun v h' os => v = some (.int (if y < x then y else x)) ∧ os = [] ∧ h' = h) := by
  refine wkM.of #[.val (.int x), .val (.int y)] (Jvm.Free.JP.mathPlain rfl (by decide +kernel)) (fun m => by first | rfl | (simp [entryFrame, mkF, argsToLocals, Value.category]; done)) ?_
  refine wkP.iloadN 1 dmin_0 rfl rfl ?_
  refine wkP.iloadN 2 dmin_1 rfl rfl ?_
  by_cases q : y < x
  · refine wkP.icmpT 9 dmin_2 (show y < x from q) (by decide) (by decide) ?_
    refine wkP.iloadN 10 dmin_9 rfl rfl ?_
    exact wkP.retI .int [] g.2.1 dmin_10 rfl (by simp) rfl (by decide) (by decide) (by simp) ⟨by rw [if_pos q], rfl, rfl⟩
  · refine wkP.icmpF 5 dmin_2 (show ¬ (y < x) from q) rfl ?_
    refine wkP.iloadN 6 dmin_5 rfl rfl ?_
    refine wkP.goto 10 dmin_6 (by decide) (by decide) ?_
    exact wkP.retI .int [] g.2.1 dmin_10 rfl (by simp) rfl (by decide) (by decide) (by simp) ⟨by rw [if_neg q], rfl, rfl⟩
abbrev rlen : Room := { frames := 1, cells := 0, slots := 0, locals := 13 }
set_option maxRecDepth 65536 in
set_option maxHeartbeats 4000000 in
theorem M_len (l : Launch) (Z : State) (a0 : Array Value) (g : G Z a0) (h : Heap) (x : Int32) : wkM l Z blen rlen #[.int x] h [] (fun v h' os => v = some (.int (ln x)) ∧ os = [] ∧ h' = h) := by
  refine wkM.of #[.val (.int x)] (plainFor_of_name (by first | (simp [plainName, overriddenIn]; done) | decide +kernel)) (fun m => by first | rfl | (simp [entryFrame, mkF, argsToLocals, Value.category]; done)) ?_
  refine wkP.iloadN 1 dlen_0 rfl rfl ?_
  refine wkP.bipush 3 (16 : Int32) dlen_1 rfl rfl ?_
  refine wkP.iushr 4 ((x).toUInt32 >>> ((16 : Int32) &&& 31).toUInt32).toInt32 dlen_3 rfl rfl ?_
  refine wkP.iconst 5 (3 : Int32) dlen_4 rfl rfl ?_
  refine wkP.iand 6 (l0 x) dlen_5 rfl rfl ?_
  refine wkP.iconst 7 (2 : Int32) dlen_6 rfl rfl ?_
  refine wkP.callS 10 (M_min l Z a0 g _ (l0 x) 2) [(.int (l0 x)), (.int (2 : Int32))] [] 0 g.2.1 (w10 g.1) (w11 g.1) (w12 g.1) (w13 g.1) (by decide) dlen_7 (lenOf pd8 rfl) rfl rfl rfl (by simp) (Nat.le_of_eq rfl) (by decide) (by decide) (by decide) (by decide) rfl ?_
  rintro v33 _ o33 ⟨rfl, rfl, rfl⟩ K33
  exact wkP.retI .int [] g.2.1 dlen_10 rfl (by simp) rfl (by decide) (by decide) (by simp) ⟨rfl, rfl, rfl⟩
abbrev rstr : Room := { frames := 4, cells := 3, slots := 8, locals := 66 }
set_option maxRecDepth 65536 in
set_option maxHeartbeats 4000000 in
theorem M_str (l : Launch) (Z : State) (a0 : Array Value) (g : G Z a0) (h : Heap) (x : Int32) : wkM l Z bstr rstr #[.int x] h [] (fun v h' os => ∃ s t, v = some (.ref s) ∧ os = [] ∧ SL Z h' s t (sOf x)) := by
  refine wkM.of #[.val (.int x), .unset, .unset, .unset] (plainFor_of_name (by first | (simp [plainName, overriddenIn]; done) | decide +kernel)) (fun m => by first | rfl | (simp [entryFrame, mkF, argsToLocals, Value.category]; done)) ?_
  refine wkP.iloadN 1 dstr_0 rfl rfl ?_
  refine wkP.callS 4 (M_len l Z a0 g _ x) [(.int x)] [] 0 g.2.1 (w7 g.1) (w8 g.1) (w5 g.1) (w9 g.1) (by decide) dstr_1 (lenOf pd9 rfl) rfl rfl rfl (by simp) (Nat.le_of_eq rfl) (by decide) (by decide) (by decide) (by decide) rfl ?_
  rintro v34 _ o34 ⟨rfl, rfl, rfl⟩ K34
  refine wkP.istoreN 5 #[.val (.int x), .val (.int (ln x)), .unset, .unset] dstr_4 rfl rfl ?_
  refine wkP.iloadN 6 dstr_5 rfl rfl ?_
  refine wkP.sipush 9 (255 : Int32) dstr_6 rfl rfl ?_
  refine wkP.iand 10 (x &&& (255 : Int32)) dstr_9 rfl rfl ?_
  refine wkP.i2c 11 (k0 x) dstr_10 (i2c_mask x) rfl ?_
  refine wkP.istoreN 12 #[.val (.int x), .val (.int (ln x)), .val (.int (k0 x)), .unset] dstr_11 rfl rfl ?_
  refine wkP.iloadN 13 dstr_12 rfl rfl ?_
  refine wkP.bipush 15 (8 : Int32) dstr_13 rfl rfl ?_
  refine wkP.iushr 16 ((x).toUInt32 >>> ((8 : Int32) &&& 31).toUInt32).toInt32 dstr_15 rfl rfl ?_
  refine wkP.sipush 19 (255 : Int32) dstr_16 rfl rfl ?_
  refine wkP.iand 20 (((x).toUInt32 >>> ((8 : Int32) &&& 31).toUInt32).toInt32 &&& (255 : Int32)) dstr_19 rfl rfl ?_
  refine wkP.i2c 21 (k1 x) dstr_20 (i2c_mask _) rfl ?_
  refine wkP.istoreN 22 #[.val (.int x), .val (.int (ln x)), .val (.int (k0 x)), .val (.int (k1 x))] dstr_21 rfl rfl ?_
  refine wkP.iloadN 23 dstr_22 rfl rfl ?_
  rcases ln3 x with hx | hx | hx
  · rw [hx]
    refine wkP.ifF 26 dstr_23 (show ¬ (¬ (0 : Int32) = (0 : Int32)) from (by decide)) rfl ?_
    refine wkP.ldc 28 ([] : List Int32) 0 (w14 g.1) (sAtoms g.1) g.2.1 (by decide) (by decide) rfl (by decide) dstr_26 (by decide) (by decide) (by decide) (by decide) rfl ?_
    intro h35 a35 b35 K35 E35 C35 V35 A35 ne35
    have z35 := K35.1
    have la35 := exaLt E35
    have lb35 := A35.lt
    exact wkP.retA (.object "java/lang/String") [] g.2.1 dstr_28 rfl rfl (by decide) (by decide) (by simp) ⟨a35, b35, rfl, rfl, by rw [show sOf x = [] by simp [sOf, hx]]; exact ⟨E35, C35, V35, A35, fun c hc => by simp at hc⟩⟩
  · rw [hx]
    refine wkP.ifT 29 dstr_23 (show ¬ (1 : Int32) = (0 : Int32) from (by decide)) (by decide) (by decide) ?_
    refine wkP.iloadN 30 dstr_29 rfl rfl ?_
    refine wkP.iconst 31 (1 : Int32) dstr_30 rfl rfl ?_
    refine wkP.icmpF 34 dstr_31 (show ¬ (¬ (1 : Int32) = (1 : Int32)) from (by decide)) rfl ?_
    refine wkP.iloadN 35 dstr_34 rfl rfl ?_
    refine wkP.callS 38 (M_valC l Z a0 g _ (k0 x) (byte_rng x)) [(.int (k0 x))] [] 0 g.2.1 (w76 g.1) (w77 g.1) (w15 g.1) (w78 g.1) (by decide) dstr_35 (lenOf pd10 rfl) rfl rfl rfl (by simp) (Nat.le_of_eq rfl) (by decide) (by decide) (by decide) (by decide) rfl ?_
    rintro v36 h36 o36 ⟨s36, t36, rfl, gs, gt, rfl, H36⟩ K36
    have z36 := K36.1
    exact wkP.retA (.object "java/lang/String") [] g.2.1 dstr_38 rfl rfl (by decide) (by decide) (by simp) ⟨s36, t36, rfl, rfl, by rw [show sOf x = [k0 x] by simp [sOf, hx]]; exact H36⟩
  · rw [hx]
    refine wkP.ifT 29 dstr_23 (show ¬ (2 : Int32) = (0 : Int32) from (by decide)) (by decide) (by decide) ?_
    refine wkP.iloadN 30 dstr_29 rfl rfl ?_
    refine wkP.iconst 31 (1 : Int32) dstr_30 rfl rfl ?_
    refine wkP.icmpT 39 dstr_31 (show ¬ (2 : Int32) = (1 : Int32) from (by decide)) (by decide) (by decide) ?_
    refine wkP.newO 42 (w54 g.1) (w16 g.1) (w15 g.1) dstr_39 (by decide) (by decide) rfl ?_
    intro h37 a37 g37 l37 K37 E37 D37 U37
    have z37 := K37.1
    have F38 := D37 (Or.inr (w19 g.1)) (ty := .byte) (by decide)
    have F39 := D37 (Or.inr (w18 g.1)) (ty := (.array .byte)) (by decide)
    refine wkP.dup 43 dstr_42 rfl rfl ?_
    refine wkP.iconst 44 (2 : Int32) dstr_43 rfl rfl ?_
    refine wkP.newP 46 .char 2 2 (w55 g.1) rfl rfl rfl dstr_44 rfl (by decide) (by decide) (by decide) (by decide) rfl ?_
    intro h40 a40 g40 l40 K40 A40
    have z40 := K40.1
    replace A40 : Ia Z h40 a40 .char [(0 : Int32), (0 : Int32)] := A40
    refine wkP.dup 47 dstr_46 rfl rfl ?_
    refine wkP.iconst 48 (0 : Int32) dstr_47 rfl rfl ?_
    refine wkP.iloadN 49 dstr_48 rfl rfl ?_
    refine wkP.stC 50 0 (k0 x) A40 dstr_49 rfl (by simp) (nar_ch (byte_rng _)) (by simp) rfl ?_
    intro h41 K41 A41
    have z41 := K41.1
    replace A41 : Ia Z h41 a40 .char [(k0 x), (0 : Int32)] := A41
    refine wkP.dup 51 dstr_50 rfl rfl ?_
    refine wkP.iconst 52 (1 : Int32) dstr_51 rfl rfl ?_
    refine wkP.iloadN 53 dstr_52 rfl rfl ?_
    refine wkP.stC 54 1 (k1 x) A41 dstr_53 rfl (by simp) (nar_ch (byte_rng _)) (by simp) rfl ?_
    intro h42 K42 A42
    have z42 := K42.1
    replace A42 : Ia Z h42 a40 .char [(k0 x), (k1 x)] := A42
    have hs : sOf x = [k0 x, k1 x] := by simp [sOf, hx]
    have hlt : lat [k0 x, k1 x] := by rw [← hs]; exact lat_sOf x
    have E37_43 := (((E37.keep K40).keep K41).keep K42)
    have F38_44 := (((F38.keep K40 nn0).keep K41 (nnS (by omega) nn0)).keep K42 (nnS (by omega) nn0))
    have F39_45 := (((F39.keep K40 nn0).keep K41 (nnS (by omega) nn0)).keep K42 (nnS (by omega) nn0))
    refine wkP.callI 57 (M_init1 l Z a0 g _ a37 a40 [k0 x, k1 x] A42 hlt (by simp) (by simp) _ _ E37_43 F38_44 F39_45) [(.ref a40)] [(.ref a37)] 1 g.2.1 (w56 g.1) (w57 g.1) (w15 g.1) (w58 g.1) rfl rfl (by decide) dstr_54 (lenOf pd11 rfl) rfl rfl rfl (by simp) (Nat.le_of_eq rfl) (by decide) (by decide) (by decide) (by decide) rfl ?_
    rintro v46 h46 o46 ⟨d46, rfl, gd46, rfl, H46⟩ K46
    have z46 := K46.1
    exact wkP.retA (.object "java/lang/String") [] g.2.1 dstr_57 rfl rfl (by decide) (by decide) (by simp) ⟨a37, d46, rfl, rfl, by rw [hs]; exact H46⟩
abbrev rsame : Room := { frames := 2, cells := 0, slots := 0, locals := 25 }
set_option maxRecDepth 65536 in
set_option maxHeartbeats 4000000 in
theorem M_same (l : Launch) (Z : State) (a0 : Array Value) (g : G Z a0) (h : Heap) (x y : Int32) : wkM l Z bsame rsame #[.int x, .int y] h [] (fun v h' os => v = some (.int (if sOf x = sOf y then 1 else 0)) ∧ os = [] ∧ h' = h) := by
  refine wkM.of #[.val (.int x), .val (.int y), .unset, .unset] (plainFor_of_name (by first | (simp [plainName, overriddenIn]; done) | decide +kernel)) (fun m => by first | rfl | (simp [entryFrame, mkF, argsToLocals, Value.category]; done)) ?_
  refine wkP.iloadN 1 dsame_0 rfl rfl ?_
  refine wkP.callS 4 (M_len l Z a0 g _ x) [(.int x)] [] 0 g.2.1 (w7 g.1) (w8 g.1) (w5 g.1) (w9 g.1) (by decide) dsame_1 (lenOf pd9 rfl) rfl rfl rfl (by simp) (Nat.le_of_eq rfl) (by decide) (by decide) (by decide) (by decide) rfl ?_
  rintro v47 _ o47 ⟨rfl, rfl, rfl⟩ K47
  refine wkP.istoreN 5 #[.val (.int x), .val (.int y), .val (.int (ln x)), .unset] dsame_4 rfl rfl ?_
  refine wkP.iloadN 6 dsame_5 rfl rfl ?_
  refine wkP.callS 9 (M_len l Z a0 g _ y) [(.int y)] [] 0 g.2.1 (w7 g.1) (w8 g.1) (w5 g.1) (w9 g.1) (by decide) dsame_6 (lenOf pd9 rfl) rfl rfl rfl (by simp) (Nat.le_of_eq rfl) (by decide) (by decide) (by decide) (by decide) rfl ?_
  rintro v48 _ o48 ⟨rfl, rfl, rfl⟩ K48
  refine wkP.istoreN 10 #[.val (.int x), .val (.int y), .val (.int (ln x)), .val (.int (ln y))] dsame_9 rfl rfl ?_
  refine wkP.iloadN 11 dsame_10 rfl rfl ?_
  refine wkP.iloadN 12 dsame_11 rfl rfl ?_
  rcases ln3 x with hx | hx | hx <;> rcases ln3 y with hy | hy | hy
  · rw [hx, hy]
    refine wkP.icmpT 17 dsame_12 (show (0 : Int32) = (0 : Int32) from (by decide)) (by decide) (by decide) ?_
    refine wkP.iloadN 18 dsame_17 rfl rfl ?_
    refine wkP.iconst 19 (1 : Int32) dsame_18 rfl rfl ?_
    refine wkP.icmpT 37 dsame_19 (show (0 : Int32) < (1 : Int32) from (by decide)) (by decide) (by decide) ?_
    refine wkP.iloadN 38 dsame_37 rfl rfl ?_
    refine wkP.iconst 39 (2 : Int32) dsame_38 rfl rfl ?_
    refine wkP.icmpT 63 dsame_39 (show (0 : Int32) < (2 : Int32) from (by decide)) (by decide) (by decide) ?_
    refine wkP.iconst 64 (1 : Int32) dsame_63 rfl rfl ?_
    exact wkP.retI .boolean [] g.2.1 dsame_64 rfl (by simp) rfl (by decide) (by decide) (by simp) ⟨by unfold sOf; simp_all, rfl, rfl⟩
  · rw [hx, hy]
    refine wkP.icmpF 15 dsame_12 (show ¬ ((0 : Int32) = (1 : Int32)) from (by decide)) rfl ?_
    refine wkP.iconst 16 (0 : Int32) dsame_15 rfl rfl ?_
    exact wkP.retI .boolean [] g.2.1 dsame_16 rfl (by simp) rfl (by decide) (by decide) (by simp) ⟨by unfold sOf; simp_all, rfl, rfl⟩
  · rw [hx, hy]
    refine wkP.icmpF 15 dsame_12 (show ¬ ((0 : Int32) = (2 : Int32)) from (by decide)) rfl ?_
    refine wkP.iconst 16 (0 : Int32) dsame_15 rfl rfl ?_
    exact wkP.retI .boolean [] g.2.1 dsame_16 rfl (by simp) rfl (by decide) (by decide) (by simp) ⟨by unfold sOf; simp_all, rfl, rfl⟩
  · rw [hx, hy]
    refine wkP.icmpF 15 dsame_12 (show ¬ ((1 : Int32) = (0 : Int32)) from (by decide)) rfl ?_
    refine wkP.iconst 16 (0 : Int32) dsame_15 rfl rfl ?_
    exact wkP.retI .boolean [] g.2.1 dsame_16 rfl (by simp) rfl (by decide) (by decide) (by simp) ⟨by unfold sOf; simp_all, rfl, rfl⟩
  · rw [hx, hy]
    refine wkP.icmpT 17 dsame_12 (show (1 : Int32) = (1 : Int32) from (by decide)) (by decide) (by decide) ?_
    refine wkP.iloadN 18 dsame_17 rfl rfl ?_
    refine wkP.iconst 19 (1 : Int32) dsame_18 rfl rfl ?_
    refine wkP.icmpF 22 dsame_19 (show ¬ ((1 : Int32) < (1 : Int32)) from (by decide)) rfl ?_
    refine wkP.iloadN 23 dsame_22 rfl rfl ?_
    refine wkP.sipush 26 (255 : Int32) dsame_23 rfl rfl ?_
    refine wkP.iand 27 (k0 x) dsame_26 rfl rfl ?_
    refine wkP.iloadN 28 dsame_27 rfl rfl ?_
    refine wkP.sipush 31 (255 : Int32) dsame_28 rfl rfl ?_
    refine wkP.iand 32 (k0 y) dsame_31 rfl rfl ?_
    by_cases q0 : (k0 x) = (k0 y)
    · refine wkP.icmpT 37 dsame_32 (show (k0 x) = (k0 y) from q0) (by decide) (by decide) ?_
      refine wkP.iloadN 38 dsame_37 rfl rfl ?_
      refine wkP.iconst 39 (2 : Int32) dsame_38 rfl rfl ?_
      refine wkP.icmpT 63 dsame_39 (show (1 : Int32) < (2 : Int32) from (by decide)) (by decide) (by decide) ?_
      refine wkP.iconst 64 (1 : Int32) dsame_63 rfl rfl ?_
      exact wkP.retI .boolean [] g.2.1 dsame_64 rfl (by simp) rfl (by decide) (by decide) (by simp) ⟨by unfold sOf; simp_all, rfl, rfl⟩
    · refine wkP.icmpF 35 dsame_32 (show ¬ ((k0 x) = (k0 y)) from q0) rfl ?_
      refine wkP.iconst 36 (0 : Int32) dsame_35 rfl rfl ?_
      exact wkP.retI .boolean [] g.2.1 dsame_36 rfl (by simp) rfl (by decide) (by decide) (by simp) ⟨by unfold sOf; simp_all, rfl, rfl⟩
  · rw [hx, hy]
    refine wkP.icmpF 15 dsame_12 (show ¬ ((1 : Int32) = (2 : Int32)) from (by decide)) rfl ?_
    refine wkP.iconst 16 (0 : Int32) dsame_15 rfl rfl ?_
    exact wkP.retI .boolean [] g.2.1 dsame_16 rfl (by simp) rfl (by decide) (by decide) (by simp) ⟨by unfold sOf; simp_all, rfl, rfl⟩
  · rw [hx, hy]
    refine wkP.icmpF 15 dsame_12 (show ¬ ((2 : Int32) = (0 : Int32)) from (by decide)) rfl ?_
    refine wkP.iconst 16 (0 : Int32) dsame_15 rfl rfl ?_
    exact wkP.retI .boolean [] g.2.1 dsame_16 rfl (by simp) rfl (by decide) (by decide) (by simp) ⟨by unfold sOf; simp_all, rfl, rfl⟩
  · rw [hx, hy]
    refine wkP.icmpF 15 dsame_12 (show ¬ ((2 : Int32) = (1 : Int32)) from (by decide)) rfl ?_
    refine wkP.iconst 16 (0 : Int32) dsame_15 rfl rfl ?_
    exact wkP.retI .boolean [] g.2.1 dsame_16 rfl (by simp) rfl (by decide) (by decide) (by simp) ⟨by unfold sOf; simp_all, rfl, rfl⟩
  · rw [hx, hy]
    refine wkP.icmpT 17 dsame_12 (show (2 : Int32) = (2 : Int32) from (by decide)) (by decide) (by decide) ?_
    refine wkP.iloadN 18 dsame_17 rfl rfl ?_
    refine wkP.iconst 19 (1 : Int32) dsame_18 rfl rfl ?_
    refine wkP.icmpF 22 dsame_19 (show ¬ ((2 : Int32) < (1 : Int32)) from (by decide)) rfl ?_
    refine wkP.iloadN 23 dsame_22 rfl rfl ?_
    refine wkP.sipush 26 (255 : Int32) dsame_23 rfl rfl ?_
    refine wkP.iand 27 (k0 x) dsame_26 rfl rfl ?_
    refine wkP.iloadN 28 dsame_27 rfl rfl ?_
    refine wkP.sipush 31 (255 : Int32) dsame_28 rfl rfl ?_
    refine wkP.iand 32 (k0 y) dsame_31 rfl rfl ?_
    by_cases q0 : (k0 x) = (k0 y)
    · refine wkP.icmpT 37 dsame_32 (show (k0 x) = (k0 y) from q0) (by decide) (by decide) ?_
      refine wkP.iloadN 38 dsame_37 rfl rfl ?_
      refine wkP.iconst 39 (2 : Int32) dsame_38 rfl rfl ?_
      refine wkP.icmpF 42 dsame_39 (show ¬ ((2 : Int32) < (2 : Int32)) from (by decide)) rfl ?_
      refine wkP.iloadN 43 dsame_42 rfl rfl ?_
      refine wkP.bipush 45 (8 : Int32) dsame_43 rfl rfl ?_
      refine wkP.iushr 46 ((x).toUInt32 >>> ((8 : Int32) &&& 31).toUInt32).toInt32 dsame_45 rfl rfl ?_
      refine wkP.sipush 49 (255 : Int32) dsame_46 rfl rfl ?_
      refine wkP.iand 50 (k1 x) dsame_49 rfl rfl ?_
      refine wkP.iloadN 51 dsame_50 rfl rfl ?_
      refine wkP.bipush 53 (8 : Int32) dsame_51 rfl rfl ?_
      refine wkP.iushr 54 ((y).toUInt32 >>> ((8 : Int32) &&& 31).toUInt32).toInt32 dsame_53 rfl rfl ?_
      refine wkP.sipush 57 (255 : Int32) dsame_54 rfl rfl ?_
      refine wkP.iand 58 (k1 y) dsame_57 rfl rfl ?_
      by_cases q1 : (k1 x) = (k1 y)
      · refine wkP.icmpT 63 dsame_58 (show (k1 x) = (k1 y) from q1) (by decide) (by decide) ?_
        refine wkP.iconst 64 (1 : Int32) dsame_63 rfl rfl ?_
        exact wkP.retI .boolean [] g.2.1 dsame_64 rfl (by simp) rfl (by decide) (by decide) (by simp) ⟨by unfold sOf; simp_all, rfl, rfl⟩
      · refine wkP.icmpF 61 dsame_58 (show ¬ ((k1 x) = (k1 y)) from q1) rfl ?_
        refine wkP.iconst 62 (0 : Int32) dsame_61 rfl rfl ?_
        exact wkP.retI .boolean [] g.2.1 dsame_62 rfl (by simp) rfl (by decide) (by decide) (by simp) ⟨by unfold sOf; simp_all, rfl, rfl⟩
    · refine wkP.icmpF 35 dsame_32 (show ¬ ((k0 x) = (k0 y)) from q0) rfl ?_
      refine wkP.iconst 36 (0 : Int32) dsame_35 rfl rfl ?_
      exact wkP.retI .boolean [] g.2.1 dsame_36 rfl (by simp) rfl (by decide) (by decide) (by simp) ⟨by unfold sOf; simp_all, rfl, rfl⟩
abbrev rrnn : Room := { frames := 0, cells := 0, slots := 0, locals := 0 }
set_option maxRecDepth 65536 in
set_option maxHeartbeats 4000000 in
theorem M_rnn (l : Launch) (Z : State) (a0 : Array Value) (g : G Z a0) (h : Heap) (a m : Addr) : wkM l Z brnn rrnn #[.ref a, .ref m] h [] (fun v h' os => v = some (.ref a) ∧ os = [] ∧ h' = h) := by
  refine wkM.of #[.val (.ref a), .val (.ref m)] (plainFor_of_name (by first | (simp [plainName, overriddenIn]; done) | decide +kernel)) (fun m => by first | rfl | (simp [entryFrame, mkF, argsToLocals, Value.category]; done)) ?_
  refine wkP.aloadN 1 drnn_0 rfl rfl rfl ?_
  refine wkP.ifnonnullT 13 drnn_1 (by decide) rfl ?_
  refine wkP.aloadN 14 drnn_13 rfl rfl rfl ?_
  exact wkP.retA (.object "java/lang/Object") [] g.2.1 drnn_14 rfl rfl (by decide) (by decide) (by simp) ⟨rfl, rfl, rfl⟩
abbrev rshI : Room := { frames := 1, cells := 4, slots := 36, locals := 14 }
set_option maxRecDepth 65536 in
set_option maxHeartbeats 4000000 in
theorem M_shI (l : Launch) (Z : State) (a0 : Array Value) (g : G Z a0) (h : Heap) (a s1 s2 : Addr) (E1 : Exa Z h s1 "java/lang/String") (E2 : Exa Z h s2 "java/lang/String") (vn vu : Value) (E : Exa Z h a "com/example/axis3/axis3/model/Shard") (FN : Fld Z h a "com/example/axis3/axis3/model/Shard" "name" "Ljava/lang/String;" vn) (FU : Fld Z h a "com/example/axis3/axis3/model/Shard" "url" "Ljava/lang/String;" vu) : wkM l Z bshI rshI #[.ref a, .ref s1, .ref s2] h [a] (fun v h' os => v = none ∧ os = [] ∧ Exa Z h' a "com/example/axis3/axis3/model/Shard" ∧ Fld Z h' a "com/example/axis3/axis3/model/Shard" "name" "Ljava/lang/String;" (.ref s1) ∧ Fld Z h' a "com/example/axis3/axis3/model/Shard" "url" "Ljava/lang/String;" (.ref s2)) := by
  refine wkM.of #[.val (.ref a), .val (.ref s1), .val (.ref s2)] (plainFor_of_name (by first | (simp [plainName, overriddenIn]; done) | decide +kernel)) (fun m => by first | rfl | (simp [entryFrame, mkF, argsToLocals, Value.category]; done)) ?_
  refine wkP.aloadN 1 dshI_0 rfl rfl rfl ?_
  refine wkP.initO 4 (w25 g.1) (w26 g.1) (w27 g.1) dshI_1 rfl (by decide) 0 (Nat.le_of_eq rfl) (by decide) rfl ?_
  refine wkP.aloadN 5 dshI_4 rfl rfl rfl ?_
  refine wkP.aloadN 6 dshI_5 rfl rfl rfl ?_
  refine wkP.ldc 8 [(110 : Int32), (97 : Int32), (109 : Int32), (101 : Int32)] 16 (w28 g.1) (sAtoms g.1) g.2.1 (by decide) (by decide) rfl (by decide) dshI_6 (by decide) (by decide) (by decide) (by decide) rfl ?_
  intro h49 a49 b49 K49 E49 C49 V49 A49 ne49
  have z49 := K49.1
  have la49 := exaLt E49
  have lb49 := A49.lt
  refine wkP.callS 11 (M_rnn l Z a0 g _ s1 a49) [(.ref s1), (.ref a49)] [(.ref a)] 1 g.2.1 (w29 g.1) (w30 g.1) (w31 g.1) (w32 g.1) (by decide) dshI_8 (lenOf pd12 rfl) rfl rfl rfl (by simp) (Nat.le_of_eq rfl) (by decide) (by decide) (by decide) (by decide) rfl ?_
  rintro v50 _ o50 ⟨rfl, rfl, rfl⟩ K50
  have E1_51 := (E1.keep K49)
  refine wkP.castY 14 (w33 g.1) (Ins.self E1_51) dshI_11 rfl ?_
  have FN_52 := (FN.keep K49 nn0)
  have E_53 := (E.keep K49)
  have FU_54 := (FU.keep K49 nn0)
  refine wkP.putF 17 (w35 g.1) FN_52 E_53 (Or.inr ⟨(w36 g.1), rfl, rfl⟩) (w1 g.1) (ty := (.object "java/lang/String")) (by decide) rfl rfl dshI_14 (by simp) rfl ?_
  intro h55 K55 W55
  have z55 := K55.1
  have F55 := Fld.same W55 FN_52
  have E55 := Exa.wr W55 E_53
  have F56 := Fld.other W55 FU_54 (Or.inr (slot_ne (t := (.object "java/lang/String")) (t' := (.object "java/lang/String")) (Or.inr (w39 g.1)) (Or.inr (w36 g.1)) (by decide) (by decide) (by decide)))
  refine wkP.aloadN 18 dshI_17 rfl rfl rfl ?_
  refine wkP.aloadN 19 dshI_18 rfl rfl rfl ?_
  refine wkP.ldc 21 [(117 : Int32), (114 : Int32), (108 : Int32)] 12 (w37 g.1) (sAtoms g.1) g.2.1 (by decide) (by decide) rfl (by decide) dshI_19 (by decide) (by decide) (by decide) (by decide) rfl ?_
  intro h57 a57 b57 K57 E57 C57 V57 A57 ne57
  have z57 := K57.1
  have la57 := exaLt E57
  have lb57 := A57.lt
  refine wkP.callS 24 (M_rnn l Z a0 g _ s2 a57) [(.ref s2), (.ref a57)] [(.ref a)] 1 g.2.1 (w29 g.1) (w30 g.1) (w31 g.1) (w32 g.1) (by decide) dshI_21 (lenOf pd12 rfl) rfl rfl rfl (by simp) (Nat.le_of_eq rfl) (by decide) (by decide) (by decide) (by decide) rfl ?_
  rintro v58 _ o58 ⟨rfl, rfl, rfl⟩ K58
  have E2_59 := (((E2.keep K49).keep K55).keep K57)
  refine wkP.castY 27 (w33 g.1) (Ins.self E2_59) dshI_24 rfl ?_
  have F56_60 := (F56.keep K57 nn0)
  have E55_61 := (E55.keep K57)
  have F55_62 := (F55.keep K57 nn0)
  refine wkP.putF 30 (w38 g.1) F56_60 E55_61 (Or.inr ⟨(w39 g.1), rfl, rfl⟩) (w1 g.1) (ty := (.object "java/lang/String")) (by decide) rfl rfl dshI_27 (by simp) rfl ?_
  intro h63 K63 W63
  have z63 := K63.1
  have F63 := Fld.same W63 F56_60
  have E63 := Exa.wr W63 E55_61
  have F64 := Fld.other W63 F55_62 (Or.inr (slot_ne (t := (.object "java/lang/String")) (t' := (.object "java/lang/String")) (Or.inr (w36 g.1)) (Or.inr (w39 g.1)) (by decide) (by decide) (by decide)))
  exact wkP.ret0 [] g.2.1 dshI_30 rfl (by decide) (by decide) (by simp) ⟨rfl, rfl, E63, F64, F63⟩
def Shd (Z : State) (h : Heap) (a s1 t1 s2 t2 : Addr) (xs ys : List Int32) : Prop := Exa Z h a "com/example/axis3/axis3/model/Shard" ∧ Fld Z h a "com/example/axis3/axis3/model/Shard" "name" "Ljava/lang/String;" (.ref s1) ∧ Fld Z h a "com/example/axis3/axis3/model/Shard" "url" "Ljava/lang/String;" (.ref s2) ∧ SL Z h s1 t1 xs ∧ SL Z h s2 t2 ys
abbrev rshE : Room := { frames := 2, cells := 0, slots := 0, locals := 28 }
set_option maxRecDepth 65536 in
set_option maxHeartbeats 4000000 in
theorem M_shEnull (l : Launch) (Z : State) (a0 : Array Value) (g : G Z a0) (h : Heap) (a : Addr) : wkM l Z bshE rshE #[.ref a, .null] h [] (fun v h' os => v = some (.int 0) ∧ os = [] ∧ h' = h) := by
  refine wkM.of #[.val (.ref a), .val .null] (plainFor_of_name (by first | (simp [plainName, overriddenIn]; done) | decide +kernel)) (fun m => by first | rfl | (simp [entryFrame, mkF, argsToLocals, Value.category]; done)) ?_
  refine wkP.aloadN 1 dshE_0 rfl rfl rfl ?_
  refine wkP.instNull 4 dshE_1 rfl ?_
  refine wkP.ifT 45 dshE_4 (show (0 : Int32) = (0 : Int32) from (by decide)) (by decide) (by decide) ?_
  refine wkP.iconst 46 (0 : Int32) dshE_45 rfl rfl ?_
  exact wkP.retI .boolean [] g.2.1 dshE_46 rfl (by simp) rfl (by decide) (by decide) (by simp) ⟨rfl, rfl, rfl⟩
set_option maxRecDepth 65536 in
set_option maxHeartbeats 4000000 in
theorem M_shEstr (l : Launch) (Z : State) (a0 : Array Value) (g : G Z a0) (h : Heap) (a s : Addr) (E : Exa Z h s "java/lang/String") : wkM l Z bshE rshE #[.ref a, .ref s] h [] (fun v h' os => v = some (.int 0) ∧ os = [] ∧ h' = h) := by
  refine wkM.of #[.val (.ref a), .val (.ref s)] (plainFor_of_name (by first | (simp [plainName, overriddenIn]; done) | decide +kernel)) (fun m => by first | rfl | (simp [entryFrame, mkF, argsToLocals, Value.category]; done)) ?_
  refine wkP.aloadN 1 dshE_0 rfl rfl rfl ?_
  refine wkP.instNo 4 (w45 g.1) E (notOf (w52 g.1) (w53 g.1) (w1 g.1) (by decide) (by decide)) dshE_1 rfl ?_
  refine wkP.ifT 45 dshE_4 (show (0 : Int32) = (0 : Int32) from (by decide)) (by decide) (by decide) ?_
  refine wkP.iconst 46 (0 : Int32) dshE_45 rfl rfl ?_
  exact wkP.retI .boolean [] g.2.1 dshE_46 rfl (by simp) rfl (by decide) (by decide) (by simp) ⟨rfl, rfl, rfl⟩
set_option maxRecDepth 65536 in
set_option maxHeartbeats 4000000 in
theorem M_shE (l : Launch) (Z : State) (a0 : Array Value) (g : G Z a0) (h : Heap) (a s1 t1 s2 t2 c p1 r1 p2 r2 : Addr) (xs ys zs us : List Int32) (F : Shd Z h a s1 t1 s2 t2 xs ys) (D : Shd Z h c p1 r1 p2 r2 zs us) : wkM l Z bshE rshE #[.ref a, .ref c] h [] (fun v h' os => v = some (.int (if xs = zs ∧ ys = us then 1 else 0)) ∧ os = [] ∧ h' = h) := by
  refine wkM.of #[.val (.ref a), .val (.ref c)] (plainFor_of_name (by first | (simp [plainName, overriddenIn]; done) | decide +kernel)) (fun m => by first | rfl | (simp [entryFrame, mkF, argsToLocals, Value.category]; done)) ?_
  refine wkP.aloadN 1 dshE_0 rfl rfl rfl ?_
  refine wkP.instY 4 (w45 g.1) (Ins.self D.1) dshE_1 rfl ?_
  refine wkP.ifF 7 dshE_4 (show ¬ ((1 : Int32) = (0 : Int32)) from (by decide)) rfl ?_
  refine wkP.aloadN 8 dshE_7 rfl rfl rfl ?_
  refine wkP.castY 11 (w45 g.1) (Ins.self D.1) dshE_8 rfl ?_
  refine wkP.getF 14 (w35 g.1) D.2.1 Via.refl dshE_11 rfl ?_
  refine wkP.aloadN 15 dshE_14 rfl rfl rfl ?_
  refine wkP.getF 18 (w35 g.1) F.2.1 Via.refl dshE_15 rfl ?_
  refine wkP.callV 21 (M_eqS l Z a0 g _ _ _ _ _ _ _ D.2.2.2.1 F.2.2.2.1) [(.ref s1)] [] 0 g.2.1 D.2.2.2.1.1 (wkNFs (w50 g.1)) (w47 g.1) (w48 g.1) (w50 g.1) (w49 g.1) (w15 g.1) (w51 g.1) (by decide) dshE_18 (lenOf pd13 rfl) rfl rfl rfl (by simp) (Nat.le_of_eq rfl) (by decide) (by decide) (by decide) (by decide) rfl ?_
  rintro v65 _ o65 ⟨rfl, rfl, rfl⟩ K65
  by_cases q1 : zs = xs
  · refine wkP.ifF 24 dshE_21 (show ¬ ((if zs = xs then 1 else 0) = (0 : Int32)) from (by rw [if_pos q1]; decide)) rfl ?_
    refine wkP.aloadN 25 dshE_24 rfl rfl rfl ?_
    refine wkP.castY 28 (w45 g.1) (Ins.self D.1) dshE_25 rfl ?_
    refine wkP.getF 31 (w38 g.1) D.2.2.1 Via.refl dshE_28 rfl ?_
    refine wkP.aloadN 32 dshE_31 rfl rfl rfl ?_
    refine wkP.getF 35 (w38 g.1) F.2.2.1 Via.refl dshE_32 rfl ?_
    refine wkP.callV 38 (M_eqS l Z a0 g _ _ _ _ _ _ _ D.2.2.2.2 F.2.2.2.2) [(.ref s2)] [] 0 g.2.1 D.2.2.2.2.1 (wkNFs (w50 g.1)) (w47 g.1) (w48 g.1) (w50 g.1) (w49 g.1) (w15 g.1) (w51 g.1) (by decide) dshE_35 (lenOf pd13 rfl) rfl rfl rfl (by simp) (Nat.le_of_eq rfl) (by decide) (by decide) (by decide) (by decide) rfl ?_
    rintro v66 _ o66 ⟨rfl, rfl, rfl⟩ K66
    by_cases q2 : us = ys
    · refine wkP.ifF 41 dshE_38 (show ¬ ((if us = ys then 1 else 0) = (0 : Int32)) from (by rw [if_pos q2]; decide)) rfl ?_
      refine wkP.iconst 42 (1 : Int32) dshE_41 rfl rfl ?_
      refine wkP.goto 46 dshE_42 (by decide) (by decide) ?_
      exact wkP.retI .boolean [] g.2.1 dshE_46 rfl (by simp) rfl (by decide) (by decide) (by simp) ⟨by rw [if_pos ⟨q1.symm, q2.symm⟩], rfl, rfl⟩
    · refine wkP.ifT 45 dshE_38 (show (if us = ys then 1 else 0) = (0 : Int32) from (by rw [if_neg q2])) (by decide) (by decide) ?_
      refine wkP.iconst 46 (0 : Int32) dshE_45 rfl rfl ?_
      exact wkP.retI .boolean [] g.2.1 dshE_46 rfl (by simp) rfl (by decide) (by decide) (by simp) ⟨by rw [if_neg (fun e => q2 e.2.symm)], rfl, rfl⟩
  · refine wkP.ifT 45 dshE_21 (show (if zs = xs then 1 else 0) = (0 : Int32) from (by rw [if_neg q1])) (by decide) (by decide) ?_
    refine wkP.iconst 46 (0 : Int32) dshE_45 rfl rfl ?_
    exact wkP.retI .boolean [] g.2.1 dshE_46 rfl (by simp) rfl (by decide) (by decide) (by simp) ⟨by rw [if_neg (fun e => q1 e.1.symm)], rfl, rfl⟩
set_option maxRecDepth 65536 in
set_option maxHeartbeats 4000000 in
theorem T_32 (l : Launch) (Z : State) (a0 : Array Value) (g : G Z a0) (h : Heap) (n u n2 u2 mo nb ub : Int32) : wkP l Z blaw room_1 h [] (fun v h' os => v = some (.int 1)) [] h 0 0 32 #[.val (.int n), .val (.int u), .val (.int n2), .val (.int u2), .val (.int mo), .val (.int nb), .val (.int ub), .unset, .unset, .unset, .unset, .unset] [] := by
  refine wkP.newO 35 (w0 g.1) (w1 g.1) (w2 g.1) at_32 (by decide) (by decide) rfl ?_
  intro h67 a67 g67 l67 K67 E67 D67 U67
  have z67 := K67.1
  have F68 := D67 (Or.inr (w36 g.1)) (ty := (.object "java/lang/String")) (by decide)
  have F69 := D67 (Or.inr (w39 g.1)) (ty := (.object "java/lang/String")) (by decide)
  refine wkP.dup 36 at_35 rfl rfl ?_
  refine wkP.iloadN 37 at_36 rfl rfl ?_
  refine wkP.callS 40 (M_str l Z a0 g _ n) [(.int n)] [(.ref a67), (.ref a67)] 2 g.2.1 (w3 g.1) (w4 g.1) (w5 g.1) (w6 g.1) (by decide) at_37 (lenOf pd14 rfl) rfl rfl rfl (by simp) (Nat.le_of_eq rfl) (by decide) (by decide) (by decide) (by decide) rfl ?_
  rintro v70 h70 o70 ⟨s70, t70, rfl, rfl, H70⟩ K70
  have z70 := K70.1
  refine wkP.iloadN 41 at_40 rfl rfl ?_
  have ls70 := H70.lta
  have lt70 := H70.ltb
  have E67_71 := (E67.keep K70)
  have nsa70 : s70 ≠ a67 := Exa.ne H70.1 E67_71 (by decide)
  have nta70 : t70 ≠ a67 := Ne.symm (exaNeIa E67_71 (w1 g.1) H70.2.2.2.1)
  refine wkP.callS 44 (M_str l Z a0 g _ u) [(.int u)] [(.ref s70), (.ref a67), (.ref a67)] 3 g.2.1 (w3 g.1) (w4 g.1) (w5 g.1) (w6 g.1) (by decide) at_41 (lenOf pd14 rfl) rfl rfl rfl (by simp) (Nat.le_of_eq rfl) (by decide) (by decide) (by decide) (by decide) rfl ?_
  rintro v72 h72 o72 ⟨s72, t72, rfl, rfl, H72⟩ K72
  have z72 := K72.1
  have ls72 := H72.lta
  have lt72 := H72.ltb
  have E67_73 := (E67_71.keep K72)
  have nsa72 : s72 ≠ a67 := Exa.ne H72.1 E67_73 (by decide)
  have nta72 : t72 ≠ a67 := Ne.symm (exaNeIa E67_73 (w1 g.1) H72.2.2.2.1)
  have H70_74 := (H70.keep K72 nn0 nn0)
  have F68_75 := ((F68.keep K70 nn0).keep K72 nn0)
  have F69_76 := ((F69.keep K70 nn0).keep K72 nn0)
  refine wkP.callI 47 (M_shI l Z a0 g _ a67 s70 s72 H70_74.1 H72.1 _ _ E67_73 F68_75 F69_76) [(.ref s70), (.ref s72)] [(.ref a67)] 1 g.2.1 (w22 g.1) (w23 g.1) (w2 g.1) (w24 g.1) rfl rfl (by decide) at_44 (lenOf pd15 rfl) rfl rfl rfl (by simp) (Nat.le_of_eq rfl) (by decide) (by decide) (by decide) (by decide) rfl ?_
  rintro v77 h77 o77 ⟨rfl, rfl, E77, N77, U77⟩ K77
  have z77 := K77.1
  have la77 := exaLt E77
  refine wkP.astore 49 #[.val (.int n), .val (.int u), .val (.int n2), .val (.int u2), .val (.int mo), .val (.int nb), .val (.int ub), .val (.ref a67), .unset, .unset, .unset, .unset] at_47 rfl rfl rfl ?_
  refine wkP.newO 52 (w0 g.1) (w1 g.1) (w2 g.1) at_49 (by decide) (by decide) rfl ?_
  intro h78 a78 g78 l78 K78 E78 D78 U78
  have z78 := K78.1
  have F79 := D78 (Or.inr (w36 g.1)) (ty := (.object "java/lang/String")) (by decide)
  have F80 := D78 (Or.inr (w39 g.1)) (ty := (.object "java/lang/String")) (by decide)
  refine wkP.dup 53 at_52 rfl rfl ?_
  refine wkP.iload 55 at_53 rfl rfl ?_
  refine wkP.callS 58 (M_str l Z a0 g _ nb) [(.int nb)] [(.ref a78), (.ref a78)] 2 g.2.1 (w3 g.1) (w4 g.1) (w5 g.1) (w6 g.1) (by decide) at_55 (lenOf pd14 rfl) rfl rfl rfl (by simp) (Nat.le_of_eq rfl) (by decide) (by decide) (by decide) (by decide) rfl ?_
  rintro v81 h81 o81 ⟨s81, t81, rfl, rfl, H81⟩ K81
  have z81 := K81.1
  refine wkP.iload 60 at_58 rfl rfl ?_
  have ls81 := H81.lta
  have lt81 := H81.ltb
  have E78_82 := (E78.keep K81)
  have nsa81 : s81 ≠ a78 := Exa.ne H81.1 E78_82 (by decide)
  have nta81 : t81 ≠ a78 := Ne.symm (exaNeIa E78_82 (w1 g.1) H81.2.2.2.1)
  refine wkP.callS 63 (M_str l Z a0 g _ ub) [(.int ub)] [(.ref s81), (.ref a78), (.ref a78)] 3 g.2.1 (w3 g.1) (w4 g.1) (w5 g.1) (w6 g.1) (by decide) at_60 (lenOf pd14 rfl) rfl rfl rfl (by simp) (Nat.le_of_eq rfl) (by decide) (by decide) (by decide) (by decide) rfl ?_
  rintro v83 h83 o83 ⟨s83, t83, rfl, rfl, H83⟩ K83
  have z83 := K83.1
  have ls83 := H83.lta
  have lt83 := H83.ltb
  have E78_84 := (E78_82.keep K83)
  have nsa83 : s83 ≠ a78 := Exa.ne H83.1 E78_84 (by decide)
  have nta83 : t83 ≠ a78 := Ne.symm (exaNeIa E78_84 (w1 g.1) H83.2.2.2.1)
  have H81_85 := (H81.keep K83 nn0 nn0)
  have F79_86 := ((F79.keep K81 nn0).keep K83 nn0)
  have F80_87 := ((F80.keep K81 nn0).keep K83 nn0)
  refine wkP.callI 66 (M_shI l Z a0 g _ a78 s81 s83 H81_85.1 H83.1 _ _ E78_84 F79_86 F80_87) [(.ref s81), (.ref s83)] [(.ref a78)] 1 g.2.1 (w22 g.1) (w23 g.1) (w2 g.1) (w24 g.1) rfl rfl (by decide) at_63 (lenOf pd15 rfl) rfl rfl rfl (by simp) (Nat.le_of_eq rfl) (by decide) (by decide) (by decide) (by decide) rfl ?_
  rintro v88 h88 o88 ⟨rfl, rfl, E88, N88, U88⟩ K88
  have z88 := K88.1
  have la88 := exaLt E88
  obtain ⟨kn, hkn⟩ : ∃ z, mo &&& 3 = z := ⟨_, rfl⟩
  refine wkP.astore 68 #[.val (.int n), .val (.int u), .val (.int n2), .val (.int u2), .val (.int mo), .val (.int nb), .val (.int ub), .val (.ref a67), .val (.ref a78), .unset, .unset, .unset] at_66 rfl rfl rfl ?_
  refine wkP.iload 70 at_68 rfl rfl ?_
  refine wkP.iconst 71 (3 : Int32) at_70 rfl rfl ?_
  refine wkP.iand 72 kn at_71 hkn rfl ?_
  refine wkP.istore 74 #[.val (.int n), .val (.int u), .val (.int n2), .val (.int u2), .val (.int mo), .val (.int nb), .val (.int ub), .val (.ref a67), .val (.ref a78), .val (.int kn), .unset, .unset] at_72 rfl rfl ?_
  refine wkP.iload 76 at_74 rfl rfl ?_
  by_cases hk0 : kn = (0 : Int32)
  · refine wkP.ifF 79 at_76 (show ¬ (¬ kn = (0 : Int32)) from (fun q => q hk0)) rfl ?_
    refine wkP.anull 80 at_79 rfl ?_
    refine wkP.astore 82 #[.val (.int n), .val (.int u), .val (.int n2), .val (.int u2), .val (.int mo), .val (.int nb), .val (.int ub), .val (.ref a67), .val (.ref a78), .val (.int kn), .val .null, .unset] at_80 rfl rfl rfl ?_
    refine wkP.iconst 83 (0 : Int32) at_82 rfl rfl ?_
    refine wkP.istore 85 #[.val (.int n), .val (.int u), .val (.int n2), .val (.int u2), .val (.int mo), .val (.int nb), .val (.int ub), .val (.ref a67), .val (.ref a78), .val (.int kn), .val .null, .val (.int (0 : Int32))] at_83 rfl rfl ?_
    refine wkP.goto 151 at_85 (by decide) (by decide) ?_
    refine wkP.aload 153 at_151 rfl rfl rfl ?_
    refine wkP.aload 155 at_153 rfl rfl rfl ?_
    have E77_89 := ((((E77.keep K78).keep K81).keep K83).keep K88)
    refine wkP.callV 158 (M_shEnull l Z a0 g _ a67) [.null] [] 0 g.2.1 E77_89 (wkNFs (w43 g.1)) (w40 g.1) (w41 g.1) (w43 g.1) (w42 g.1) (w2 g.1) (w44 g.1) (by decide) at_155 (lenOf pd13 rfl) rfl rfl rfl (by simp) (Nat.le_of_eq rfl) (by decide) (by decide) (by decide) (by decide) rfl ?_
    rintro v90 _ o90 ⟨rfl, rfl, rfl⟩ K90
    refine wkP.iload 160 at_158 rfl rfl ?_
    refine wkP.icmpF 163 at_160 (show ¬ (¬ (0 : Int32) = (0 : Int32)) from (by decide)) rfl ?_
    refine wkP.iconst 164 (1 : Int32) at_163 rfl rfl ?_
    refine wkP.goto 168 at_164 (by decide) (by decide) ?_
    exact wkP.retI .boolean [] g.2.1 at_168 rfl (by simp) rfl (by decide) (by decide) (by simp) rfl
  · refine wkP.ifT 88 at_76 (show ¬ kn = (0 : Int32) from hk0) (by decide) (by decide) ?_
    refine wkP.iload 90 at_88 rfl rfl ?_
    refine wkP.iconst 91 (1 : Int32) at_90 rfl rfl ?_
    by_cases hk1 : kn = (1 : Int32)
    · refine wkP.icmpF 94 at_91 (show ¬ (¬ kn = (1 : Int32)) from (fun q => q hk1)) rfl ?_
      refine wkP.iloadN 95 at_94 rfl rfl ?_
      refine wkP.callS 98 (M_str l Z a0 g _ n) [(.int n)] [] 0 g.2.1 (w3 g.1) (w4 g.1) (w5 g.1) (w6 g.1) (by decide) at_95 (lenOf pd14 rfl) rfl rfl rfl (by simp) (Nat.le_of_eq rfl) (by decide) (by decide) (by decide) (by decide) rfl ?_
      rintro v91 h91 o91 ⟨s91, t91, rfl, rfl, H91⟩ K91
      have z91 := K91.1
      refine wkP.astore 100 #[.val (.int n), .val (.int u), .val (.int n2), .val (.int u2), .val (.int mo), .val (.int nb), .val (.int ub), .val (.ref a67), .val (.ref a78), .val (.int kn), .val (.ref s91), .unset] at_98 rfl rfl rfl ?_
      refine wkP.iconst 101 (0 : Int32) at_100 rfl rfl ?_
      refine wkP.istore 103 #[.val (.int n), .val (.int u), .val (.int n2), .val (.int u2), .val (.int mo), .val (.int nb), .val (.int ub), .val (.ref a67), .val (.ref a78), .val (.int kn), .val (.ref s91), .val (.int (0 : Int32))] at_101 rfl rfl ?_
      refine wkP.goto 151 at_103 (by decide) (by decide) ?_
      refine wkP.aload 153 at_151 rfl rfl rfl ?_
      refine wkP.aload 155 at_153 rfl rfl rfl ?_
      have E77_92 := (((((E77.keep K78).keep K81).keep K83).keep K88).keep K91)
      refine wkP.callV 158 (M_shEstr l Z a0 g _ a67 s91 H91.1) [(.ref s91)] [] 0 g.2.1 E77_92 (wkNFs (w43 g.1)) (w40 g.1) (w41 g.1) (w43 g.1) (w42 g.1) (w2 g.1) (w44 g.1) (by decide) at_155 (lenOf pd13 rfl) rfl rfl rfl (by simp) (Nat.le_of_eq rfl) (by decide) (by decide) (by decide) (by decide) rfl ?_
      rintro v93 _ o93 ⟨rfl, rfl, rfl⟩ K93
      refine wkP.iload 160 at_158 rfl rfl ?_
      refine wkP.icmpF 163 at_160 (show ¬ (¬ (0 : Int32) = (0 : Int32)) from (by decide)) rfl ?_
      refine wkP.iconst 164 (1 : Int32) at_163 rfl rfl ?_
      refine wkP.goto 168 at_164 (by decide) (by decide) ?_
      exact wkP.retI .boolean [] g.2.1 at_168 rfl (by simp) rfl (by decide) (by decide) (by simp) rfl
    · refine wkP.icmpT 106 at_91 (show ¬ kn = (1 : Int32) from hk1) (by decide) (by decide) ?_
      refine wkP.iload 108 at_106 rfl rfl ?_
      refine wkP.iconst 109 (2 : Int32) at_108 rfl rfl ?_
      by_cases hk2 : kn = (2 : Int32)
      · refine wkP.icmpF 112 at_109 (show ¬ (¬ kn = (2 : Int32)) from (fun q => q hk2)) rfl ?_
        refine wkP.aload 114 at_112 rfl rfl rfl ?_
        refine wkP.astore 116 #[.val (.int n), .val (.int u), .val (.int n2), .val (.int u2), .val (.int mo), .val (.int nb), .val (.int ub), .val (.ref a67), .val (.ref a78), .val (.int kn), .val (.ref a78), .unset] at_114 rfl rfl rfl ?_
        refine wkP.iloadN 117 at_116 rfl rfl ?_
        refine wkP.iload 119 at_117 rfl rfl ?_
        have E77_94 := ((((E77.keep K78).keep K81).keep K83).keep K88)
        have N77_95 := ((((N77.keep K78 nn0).keep K81 nn0).keep K83 nn0).keep K88 (nnS (by omega) nn0))
        have U77_96 := ((((U77.keep K78 nn0).keep K81 nn0).keep K83 nn0).keep K88 (nnS (by omega) nn0))
        have H70_97 := (((((H70_74.keep K77 (nnS nsa70 nn0) (nnS nta70 nn0)).keep K78 nn0 nn0).keep K81 nn0 nn0).keep K83 nn0 nn0).keep K88 (nnS (by omega) nn0) (nnS (by omega) nn0))
        have H72_98 := (((((H72.keep K77 (nnS nsa72 nn0) (nnS nta72 nn0)).keep K78 nn0 nn0).keep K81 nn0 nn0).keep K83 nn0 nn0).keep K88 (nnS (by omega) nn0) (nnS (by omega) nn0))
        have SHA : Shd Z h88 a67 s70 t70 s72 t72 (sOf n) (sOf u) := ⟨E77_94, N77_95, U77_96, H70_97, H72_98⟩
        have H81_99 := (H81_85.keep K88 (nnS nsa81 nn0) (nnS nta81 nn0))
        have H83_100 := (H83.keep K88 (nnS nsa83 nn0) (nnS nta83 nn0))
        have SHB : Shd Z h88 a78 s81 t81 s83 t83 (sOf nb) (sOf ub) := ⟨E88, N88, U88, H81_99, H83_100⟩
        refine wkP.callS 122 (M_same l Z a0 g _ n nb) [(.int n), (.int nb)] [] 0 g.2.1 (w90 g.1) (w91 g.1) (w5 g.1) (w92 g.1) (by decide) at_119 (lenOf pd16 rfl) rfl rfl rfl (by simp) (Nat.le_of_eq rfl) (by decide) (by decide) (by decide) (by decide) rfl ?_
        rintro v101 _ o101 ⟨rfl, rfl, rfl⟩ K101
        by_cases z1 : sOf n = sOf nb
        · refine wkP.ifF 125 at_122 (show ¬ ((if sOf n = sOf nb then 1 else 0) = (0 : Int32)) from (by rw [if_pos z1]; decide)) rfl ?_
          refine wkP.iloadN 126 at_125 rfl rfl ?_
          refine wkP.iload 128 at_126 rfl rfl ?_
          refine wkP.callS 131 (M_same l Z a0 g _ u ub) [(.int u), (.int ub)] [] 0 g.2.1 (w90 g.1) (w91 g.1) (w5 g.1) (w92 g.1) (by decide) at_128 (lenOf pd16 rfl) rfl rfl rfl (by simp) (Nat.le_of_eq rfl) (by decide) (by decide) (by decide) (by decide) rfl ?_
          rintro v103 _ o103 ⟨rfl, rfl, rfl⟩ K103
          by_cases z2 : sOf u = sOf ub
          · refine wkP.ifF 134 at_131 (show ¬ ((if sOf u = sOf ub then 1 else 0) = (0 : Int32)) from (by rw [if_pos z2]; decide)) rfl ?_
            refine wkP.iconst 135 (1 : Int32) at_134 rfl rfl ?_
            refine wkP.goto 139 at_135 (by decide) (by decide) ?_
            refine wkP.istore 141 #[.val (.int n), .val (.int u), .val (.int n2), .val (.int u2), .val (.int mo), .val (.int nb), .val (.int ub), .val (.ref a67), .val (.ref a78), .val (.int kn), .val (.ref a78), .val (.int (1 : Int32))] at_139 rfl rfl ?_
            refine wkP.goto 151 at_141 (by decide) (by decide) ?_
            refine wkP.aload 153 at_151 rfl rfl rfl ?_
            refine wkP.aload 155 at_153 rfl rfl rfl ?_
            refine wkP.callV 158 (M_shE l Z a0 g _ _ _ _ _ _ _ _ _ _ _ _ _ _ _ SHA SHB) [(.ref a78)] [] 0 g.2.1 E77_94 (wkNFs (w43 g.1)) (w40 g.1) (w41 g.1) (w43 g.1) (w42 g.1) (w2 g.1) (w44 g.1) (by decide) at_155 (lenOf pd13 rfl) rfl rfl rfl (by simp) (Nat.le_of_eq rfl) (by decide) (by decide) (by decide) (by decide) rfl ?_
            rintro v104 _ o104 ⟨rfl, rfl, rfl⟩ K104
            refine wkP.iload 160 at_158 rfl rfl ?_
            refine wkP.icmpF 163 at_160 (show ¬ (¬ (if sOf n = sOf nb ∧ sOf u = sOf ub then 1 else 0) = (1 : Int32)) from (fun q => q (by rw [if_pos ⟨z1, z2⟩]))) rfl ?_
            refine wkP.iconst 164 (1 : Int32) at_163 rfl rfl ?_
            refine wkP.goto 168 at_164 (by decide) (by decide) ?_
            exact wkP.retI .boolean [] g.2.1 at_168 rfl (by simp) rfl (by decide) (by decide) (by simp) rfl
          · refine wkP.ifT 138 at_131 (show (if sOf u = sOf ub then 1 else 0) = (0 : Int32) from (by rw [if_neg z2])) (by decide) (by decide) ?_
            refine wkP.iconst 139 (0 : Int32) at_138 rfl rfl ?_
            refine wkP.istore 141 #[.val (.int n), .val (.int u), .val (.int n2), .val (.int u2), .val (.int mo), .val (.int nb), .val (.int ub), .val (.ref a67), .val (.ref a78), .val (.int kn), .val (.ref a78), .val (.int (0 : Int32))] at_139 rfl rfl ?_
            refine wkP.goto 151 at_141 (by decide) (by decide) ?_
            refine wkP.aload 153 at_151 rfl rfl rfl ?_
            refine wkP.aload 155 at_153 rfl rfl rfl ?_
            refine wkP.callV 158 (M_shE l Z a0 g _ _ _ _ _ _ _ _ _ _ _ _ _ _ _ SHA SHB) [(.ref a78)] [] 0 g.2.1 E77_94 (wkNFs (w43 g.1)) (w40 g.1) (w41 g.1) (w43 g.1) (w42 g.1) (w2 g.1) (w44 g.1) (by decide) at_155 (lenOf pd13 rfl) rfl rfl rfl (by simp) (Nat.le_of_eq rfl) (by decide) (by decide) (by decide) (by decide) rfl ?_
            rintro v105 _ o105 ⟨rfl, rfl, rfl⟩ K105
            refine wkP.iload 160 at_158 rfl rfl ?_
            refine wkP.icmpF 163 at_160 (show ¬ (¬ (if sOf n = sOf nb ∧ sOf u = sOf ub then 1 else 0) = (0 : Int32)) from (fun q => q (by rw [if_neg (fun e => z2 e.2)]))) rfl ?_
            refine wkP.iconst 164 (1 : Int32) at_163 rfl rfl ?_
            refine wkP.goto 168 at_164 (by decide) (by decide) ?_
            exact wkP.retI .boolean [] g.2.1 at_168 rfl (by simp) rfl (by decide) (by decide) (by simp) rfl
        · refine wkP.ifT 138 at_122 (show (if sOf n = sOf nb then 1 else 0) = (0 : Int32) from (by rw [if_neg z1])) (by decide) (by decide) ?_
          refine wkP.iconst 139 (0 : Int32) at_138 rfl rfl ?_
          refine wkP.istore 141 #[.val (.int n), .val (.int u), .val (.int n2), .val (.int u2), .val (.int mo), .val (.int nb), .val (.int ub), .val (.ref a67), .val (.ref a78), .val (.int kn), .val (.ref a78), .val (.int (0 : Int32))] at_139 rfl rfl ?_
          refine wkP.goto 151 at_141 (by decide) (by decide) ?_
          refine wkP.aload 153 at_151 rfl rfl rfl ?_
          refine wkP.aload 155 at_153 rfl rfl rfl ?_
          refine wkP.callV 158 (M_shE l Z a0 g _ _ _ _ _ _ _ _ _ _ _ _ _ _ _ SHA SHB) [(.ref a78)] [] 0 g.2.1 E77_94 (wkNFs (w43 g.1)) (w40 g.1) (w41 g.1) (w43 g.1) (w42 g.1) (w2 g.1) (w44 g.1) (by decide) at_155 (lenOf pd13 rfl) rfl rfl rfl (by simp) (Nat.le_of_eq rfl) (by decide) (by decide) (by decide) (by decide) rfl ?_
          rintro v102 _ o102 ⟨rfl, rfl, rfl⟩ K102
          refine wkP.iload 160 at_158 rfl rfl ?_
          refine wkP.icmpF 163 at_160 (show ¬ (¬ (if sOf n = sOf nb ∧ sOf u = sOf ub then 1 else 0) = (0 : Int32)) from (fun q => q (by rw [if_neg (fun e => z1 e.1)]))) rfl ?_
          refine wkP.iconst 164 (1 : Int32) at_163 rfl rfl ?_
          refine wkP.goto 168 at_164 (by decide) (by decide) ?_
          exact wkP.retI .boolean [] g.2.1 at_168 rfl (by simp) rfl (by decide) (by decide) (by simp) rfl
      · refine wkP.icmpT 144 at_109 (show ¬ kn = (2 : Int32) from hk2) (by decide) (by decide) ?_
        refine wkP.aload 146 at_144 rfl rfl rfl ?_
        refine wkP.astore 148 #[.val (.int n), .val (.int u), .val (.int n2), .val (.int u2), .val (.int mo), .val (.int nb), .val (.int ub), .val (.ref a67), .val (.ref a78), .val (.int kn), .val (.ref a67), .unset] at_146 rfl rfl rfl ?_
        refine wkP.iconst 149 (1 : Int32) at_148 rfl rfl ?_
        refine wkP.istore 151 #[.val (.int n), .val (.int u), .val (.int n2), .val (.int u2), .val (.int mo), .val (.int nb), .val (.int ub), .val (.ref a67), .val (.ref a78), .val (.int kn), .val (.ref a67), .val (.int (1 : Int32))] at_149 rfl rfl ?_
        have E77_106 := ((((E77.keep K78).keep K81).keep K83).keep K88)
        have N77_107 := ((((N77.keep K78 nn0).keep K81 nn0).keep K83 nn0).keep K88 (nnS (by omega) nn0))
        have U77_108 := ((((U77.keep K78 nn0).keep K81 nn0).keep K83 nn0).keep K88 (nnS (by omega) nn0))
        have H70_109 := (((((H70_74.keep K77 (nnS nsa70 nn0) (nnS nta70 nn0)).keep K78 nn0 nn0).keep K81 nn0 nn0).keep K83 nn0 nn0).keep K88 (nnS (by omega) nn0) (nnS (by omega) nn0))
        have H72_110 := (((((H72.keep K77 (nnS nsa72 nn0) (nnS nta72 nn0)).keep K78 nn0 nn0).keep K81 nn0 nn0).keep K83 nn0 nn0).keep K88 (nnS (by omega) nn0) (nnS (by omega) nn0))
        have SHA : Shd Z h88 a67 s70 t70 s72 t72 (sOf n) (sOf u) := ⟨E77_106, N77_107, U77_108, H70_109, H72_110⟩
        refine wkP.aload 153 at_151 rfl rfl rfl ?_
        refine wkP.aload 155 at_153 rfl rfl rfl ?_
        refine wkP.callV 158 (M_shE l Z a0 g _ _ _ _ _ _ _ _ _ _ _ _ _ _ _ SHA SHA) [(.ref a67)] [] 0 g.2.1 E77_106 (wkNFs (w43 g.1)) (w40 g.1) (w41 g.1) (w43 g.1) (w42 g.1) (w2 g.1) (w44 g.1) (by decide) at_155 (lenOf pd13 rfl) rfl rfl rfl (by simp) (Nat.le_of_eq rfl) (by decide) (by decide) (by decide) (by decide) rfl ?_
        rintro v111 _ o111 ⟨rfl, rfl, rfl⟩ K111
        refine wkP.iload 160 at_158 rfl rfl ?_
        refine wkP.icmpF 163 at_160 (show ¬ (¬ (if sOf n = sOf n ∧ sOf u = sOf u then 1 else 0) = (1 : Int32)) from (fun q => q (by rw [if_pos ⟨rfl, rfl⟩]))) rfl ?_
        refine wkP.iconst 164 (1 : Int32) at_163 rfl rfl ?_
        refine wkP.goto 168 at_164 (by decide) (by decide) ?_
        exact wkP.retI .boolean [] g.2.1 at_168 rfl (by simp) rfl (by decide) (by decide) (by simp) rfl
set_option maxRecDepth 65536 in
set_option maxHeartbeats 4000000 in
theorem M_law (l : Launch) (Z : State) (a0 : Array Value) (g : G Z a0) (h : Heap) (i0 i1 i2 i3 i4 : Int32) : wkM l Z blaw room_1 #[.int i0, .int i1, .int i2, .int i3, .int i4] h [] (fun v h' os => v = some (.int 1)) := by
  refine wkM.of #[.val (.int i0), .val (.int i1), .val (.int i2), .val (.int i3), .val (.int i4), .unset, .unset, .unset, .unset, .unset, .unset, .unset] (plainFor_of_name (by first | (simp [plainName, overriddenIn]; done) | decide +kernel)) (fun m => by first | rfl | (simp [entryFrame, mkF, argsToLocals, Value.category]; done)) ?_
  obtain ⟨b2, hb2⟩ : ∃ z, (i4.toUInt32 >>> ((2 : Int32) &&& 31).toUInt32).toInt32 &&& 1 = z := ⟨_, rfl⟩
  obtain ⟨b3, hb3⟩ : ∃ z, (i4.toUInt32 >>> ((3 : Int32) &&& 31).toUInt32).toInt32 &&& 1 = z := ⟨_, rfl⟩
  refine wkP.iload 2 at_0 rfl rfl ?_
  refine wkP.iconst 3 (2 : Int32) at_2 rfl rfl ?_
  refine wkP.iushr 4 ((i4).toUInt32 >>> ((2 : Int32) &&& 31).toUInt32).toInt32 at_3 rfl rfl ?_
  refine wkP.iconst 5 (1 : Int32) at_4 rfl rfl ?_
  refine wkP.iand 6 b2 at_5 hb2 rfl ?_
  by_cases q2 : b2 = (0 : Int32)
  · refine wkP.ifT 13 at_6 (show b2 = (0 : Int32) from q2) (by decide) (by decide) ?_
    refine wkP.iloadN 14 at_13 rfl rfl ?_
    refine wkP.istore 16 #[.val (.int i0), .val (.int i1), .val (.int i2), .val (.int i3), .val (.int i4), .val (.int i2), .unset, .unset, .unset, .unset, .unset, .unset] at_14 rfl rfl ?_
    refine wkP.iload 18 at_16 rfl rfl ?_
    refine wkP.iconst 19 (3 : Int32) at_18 rfl rfl ?_
    refine wkP.iushr 20 ((i4).toUInt32 >>> ((3 : Int32) &&& 31).toUInt32).toInt32 at_19 rfl rfl ?_
    refine wkP.iconst 21 (1 : Int32) at_20 rfl rfl ?_
    refine wkP.iand 22 b3 at_21 hb3 rfl ?_
    by_cases q3 : b3 = (0 : Int32)
    · refine wkP.ifT 29 at_22 (show b3 = (0 : Int32) from q3) (by decide) (by decide) ?_
      refine wkP.iloadN 30 at_29 rfl rfl ?_
      refine wkP.istore 32 #[.val (.int i0), .val (.int i1), .val (.int i2), .val (.int i3), .val (.int i4), .val (.int i2), .val (.int i3), .unset, .unset, .unset, .unset, .unset] at_30 rfl rfl ?_
      exact T_32 l Z a0 g h _ _ _ _ _ _ _
    · refine wkP.ifF 25 at_22 (show ¬ (b3 = (0 : Int32)) from q3) rfl ?_
      refine wkP.iloadN 26 at_25 rfl rfl ?_
      refine wkP.goto 30 at_26 (by decide) (by decide) ?_
      refine wkP.istore 32 #[.val (.int i0), .val (.int i1), .val (.int i2), .val (.int i3), .val (.int i4), .val (.int i2), .val (.int i1), .unset, .unset, .unset, .unset, .unset] at_30 rfl rfl ?_
      exact T_32 l Z a0 g h _ _ _ _ _ _ _
  · refine wkP.ifF 9 at_6 (show ¬ (b2 = (0 : Int32)) from q2) rfl ?_
    refine wkP.iloadN 10 at_9 rfl rfl ?_
    refine wkP.goto 14 at_10 (by decide) (by decide) ?_
    refine wkP.istore 16 #[.val (.int i0), .val (.int i1), .val (.int i2), .val (.int i3), .val (.int i4), .val (.int i0), .unset, .unset, .unset, .unset, .unset, .unset] at_14 rfl rfl ?_
    refine wkP.iload 18 at_16 rfl rfl ?_
    refine wkP.iconst 19 (3 : Int32) at_18 rfl rfl ?_
    refine wkP.iushr 20 ((i4).toUInt32 >>> ((3 : Int32) &&& 31).toUInt32).toInt32 at_19 rfl rfl ?_
    refine wkP.iconst 21 (1 : Int32) at_20 rfl rfl ?_
    refine wkP.iand 22 b3 at_21 hb3 rfl ?_
    by_cases q3 : b3 = (0 : Int32)
    · refine wkP.ifT 29 at_22 (show b3 = (0 : Int32) from q3) (by decide) (by decide) ?_
      refine wkP.iloadN 30 at_29 rfl rfl ?_
      refine wkP.istore 32 #[.val (.int i0), .val (.int i1), .val (.int i2), .val (.int i3), .val (.int i4), .val (.int i0), .val (.int i3), .unset, .unset, .unset, .unset, .unset] at_30 rfl rfl ?_
      exact T_32 l Z a0 g h _ _ _ _ _ _ _
    · refine wkP.ifF 25 at_22 (show ¬ (b3 = (0 : Int32)) from q3) rfl ?_
      refine wkP.iloadN 26 at_25 rfl rfl ?_
      refine wkP.goto 30 at_26 (by decide) (by decide) ?_
      refine wkP.istore 32 #[.val (.int i0), .val (.int i1), .val (.int i2), .val (.int i3), .val (.int i4), .val (.int i0), .val (.int i1), .unset, .unset, .unset, .unset, .unset] at_30 rfl rfl ?_
      exact T_32 l Z a0 g h _ _ _ _ _ _ _
theorem own_EW {Z : State} {a0 : Array Value} (hw : ∀ d ∈ tables_1, d.before a0 Z = true) : EW Z a0 EL := by
  exact (EW.cons (text := "name") (w28 hw) (by decide) (EW.cons (text := "url") (w37 hw) (by decide) (EW.cons (text := "") (w14 hw) (by decide) EW.nil)))
set_option maxRecDepth 65536 in
set_option maxHeartbeats 4000000 in
theorem comes_1 {Post : Tables → Env → Array Value → State → Outcome → State → Prop} (hpost : ∀ tb e args s v u, (limb_1_1.after args s (.returned v) u = true ∧ limb_1_2.after args s (.returned v) u = true ∧ True) → FramedW s (.returned v) u (Jvm.fieldLocs frame_1_writes args s ++ Jvm.arrayLocs frame_1_arrays args s ++ Jvm.staticLocs frame_1_statics s) 48 3264 → Post tb e args s (.returned v) u) :
    ArmFor flags0 classFile x code maxLocals ret World_1 tables_1 room_1 Calls_1 rest_1 Pre_1 Post := by
  intro l hfl _ _ p e ha hc hk s m args below hf hA hF happ hP
  obtain ⟨hcalls, hrest, hpre⟩ := hP
  obtain ⟨-, -, -, hnamed, -, -, -, hat⟩ := (Spec.applies_iff hf).mp happ
  obtain ⟨hg, hn⟩ := and_e (Cond.before_iff.mp (show (Jvm.Cond.and given_1 narrow_1).before args s = true from hpre))
  obtain ⟨q0, hg⟩ := and_e hg
  obtain ⟨q1, hg⟩ := and_e hg
  obtain ⟨q2, hg⟩ := and_e hg
  obtain ⟨q3, hg⟩ := and_e hg
  obtain ⟨q4, hg⟩ := and_e hg
  have q5 := hg
  obtain ⟨u0, u1, u2, u3, u4, rfl⟩ : ∃ u0 u1 u2 u3 u4 : Value, args = #[u0, u1, u2, u3, u4] := by
    have hs : args.size = 5 := by simpa [Cond.value, given_1] using q0
    obtain ⟨L⟩ := args
    match L, hs with
    | [u0, u1, u2, u3, u4], _ => exact ⟨u0, u1, u2, u3, u4, rfl⟩
  have hw := fun d (hd : d ∈ tables_1) => atoms_spec (ws := Jvm.Cond.code x code maxLocals ret :: tables_1) hat d (List.mem_cons_of_mem _ hd)
  obtain ⟨hsets, hown0⟩ := atoms_of _ (rest_1_c_eq ▸ (show rest_1_c.before _ s = true from hrest))
  obtain ⟨i0, e0⟩ := is_v q1
  obtain rfl : u0 = (.int i0) := Option.some.inj e0
  obtain ⟨i1, e1⟩ := is_v q2
  obtain rfl : u1 = (.int i1) := Option.some.inj e1
  obtain ⟨i2, e2⟩ := is_v q3
  obtain rfl : u2 = (.int i2) := Option.some.inj e2
  obtain ⟨i3, e3⟩ := is_v q4
  obtain rfl : u3 = (.int i3) := Option.some.inj e3
  obtain ⟨i4, e4⟩ := is_v q5
  obtain rfl : u4 = (.int i4) := Option.some.inj e4
  have n3 := not_v (Cond.before_iff.mp (hsets _ (List.mem_of_getElem? (i := 2) rfl)))
  obtain ⟨zc, ezc⟩ := is_v (Cond.before_iff.mp (hsets _ (List.mem_of_getElem? (i := 1) rfl)))
  have S8 : Sta s s.heap "java/lang/String" "COMPACT_STRINGS" "Z" (.int zc) := Sta.start ezc (Or.inl (hsets _ (List.mem_of_getElem? (i := 0) rfl)))
  have c13 : ¬ (zc = (0 : Int32)) := gotF (Cond.eq_ints ezc (Term.int_eval (0))) n3
  have hE := own_EW hw
  have hCH : CHv s EL s.vm s.heap := CHv.start hE (fun q hq => hcalls.1 q hq) (hsets _ (List.mem_of_getElem? (i := 2) rfl)) (sAtoms hw _ (by simp [Bundle.stringAtoms])) (sAtoms hw _ (by simp [Bundle.stringAtoms, Bundle.sN]))
  obtain ⟨b1, b2, b3, b4, b5, b6, b7, -⟩ := (Spec.appliesLoose_iff hf).mp ((Spec.applies_iff_loose hf).mp happ).1
  have hcode := atoms_spec (ws := Jvm.Cond.code x code maxLocals ret :: tables_1) hat _ (List.mem_cons_self ..)
  have hap : (head1 [Jvm.Cond.code x code maxLocals ret] room_1).appliesLoose x e.platform s = true := (Spec.appliesLoose_iff hf).mpr ⟨b1, b2, b3, b4, b5, b6, b7, by show (Jvm.Cond.and _ .tt).before _ s = true; rw [Cond.before_and, hcode]; rfl⟩
  obtain ⟨n, o, h1, h2, h3, v, L, rfl, ⟨os, rfl, -, N, -, -⟩, -, hq⟩ := M_law l s _ ⟨hw, hE, zc, S8, c13⟩ s.heap i0 i1 i2 i3 i4 (Old.start s) (by simp) p e ha hc hk s m _ below hf hap ⟨rfl, State.Warmed39.refl s, rfl, hCH, by simp⟩ trivial
  exact ⟨n, _, h1, h2, h3, hpost _ _ _ _ _ _ ⟨Cond.after_iff.mpr rfl, Cond.after_iff.mpr (eq_i res_at (Term.int_eval (1)) rfl), trivial⟩ ⟨hq.1, hq.2.1, hq.2.2.1, (hq.2.2.2.sift fun y hy => Or.inr (N y hy)).mono (by decide) (by decide)⟩⟩
theorem main_1_1 : Claimed_1_1 := comes_1 fun _ _ _ _ _ _ h hF => ⟨h.1, hF⟩
theorem main_1_2 : Claimed_1_2 := comes_1 fun _ _ _ _ _ _ h hF => ⟨h.2.1, hF⟩
end Jvm.Pilot.@@N@@
namespace Jvm.Pilot.@@N@@
open Jvm Jvm.ClassFile Sem Op Lib Jvm.Free Jvm.Stand Jvm.Pilot.@@N@@.Jvm.D
/-! MADE BY PROGRAM (witnessworld.py) out of the Statement's table words and the real class files: 22 classes; the members and pool entries that the words name. The judged class is class 1, her method 1. -/
namespace start1
open Jvm.ClassFile
def u (s : String) : CpInfo := .utf8 (stringToUtf16 s)
/-- a pool by its gaps: so many unusable entries, then the entry; so many at the end -/
def gap : Nat → List CpInfo → List CpInfo
  | 0, r => r
  | n + 1, r => .unusable :: gap n r
def poolList (es : List (Nat × CpInfo)) (last : Nat) : List CpInfo := es.foldr (fun e r => gap e.1 (e.2 :: r)) (gap last [])
def pool (es : List (Nat × CpInfo)) (last : Nat) : Array CpInfo := ⟨poolList es last⟩
def fileOf (pool : Array CpInfo) (this : Nat) (attrs : Array Attribute := #[]) (ms : Array MethodInfo := #[]) (fl : Nat := 33) (sup : Nat := 0) (ifs : Array Nat := #[]) (fds : Array FieldInfo := #[]) : ClassFile where
  minorVersion := 0
  majorVersion := 65
  constantPool := pool
  accessFlags := fl
  thisClass := this
  superClass := sup
  interfaces := ifs
  fields := fds
  methods := ms
  attributes := attrs
def plain (name : String) (sup : Option ClassId) : Class where
  name := name
  kind := .ordinary
  loader := none
  accessFlags := 33
  super := sup
  interfaces := #[]
  cf := none
  fields := #[]
  methods := #[]
  instanceTypes := #[]
  staticTypes := #[]
  resolved := #[]
  callSites := []
  init := .initialized
  statics := none
  mirror := none

def pool0 : Array CpInfo := pool [(5, u "<init>"), (0, u "()V"), (1, .class_ 10), (1, u "java/lang/Object")] 113

def k0c0 : Code := { maxStack := 0, maxLocals := 1, code := object_method_1_code, exceptionTable := #[], attributes := #[] }
def k0m0 : Method := { name := "<init>", desc := "()V", sig := { parameters := [], returnType := none }, accessFlags := 1, code := some k0c0 }
/-- java/lang/Object -/
def k0 : Class := { plain "java/lang/Object" none with
  accessFlags := 33
  interfaces := #[]
  cf := some (fileOf pool0 8 #[] #[{ accessFlags := 1, nameIndex := 5, descriptorIndex := 6, attributes := #[] }] 33 0 #[] #[])
  fields := #[]
  methods := #[k0m0]
  instanceTypes := #[]
  staticTypes := #[]
  resolved := Array.replicate 124 none
  statics := none }

def pool1 : Array CpInfo := pool [(2, .class_ 4), (1, u "java/lang/Object"), (0, u "<init>"), (0, u "()V"), (0, .class_ 8), (0, u "com/example/axis3/axis3/model/Shard"), (0, .methodref 10 11), (0, .class_ 12), (0, .nameAndType 13 14), (0, u "com/example/axis3/axis3/model/ShardEqualsPinLaw"), (0, u "str"), (0, u "(I)Ljava/lang/String;"), (0, .methodref 7 16), (0, .nameAndType 5 17), (0, u "(Ljava/lang/String;Ljava/lang/String;)V"), (0, .methodref 10 19), (0, .nameAndType 20 21), (0, u "same"), (0, u "(II)Z"), (0, .methodref 7 23), (0, .nameAndType 24 25), (0, u "equals"), (0, u "(Ljava/lang/Object;)Z"), (0, .methodref 27 28), (0, .class_ 29), (0, .nameAndType 30 31), (0, u "java/lang/Math"), (0, u "min"), (0, u "(II)I"), (0, .methodref 10 33), (0, .nameAndType 34 35), (0, u "len"), (0, u "(I)I"), (0, .string 37), (0, u ""), (0, .methodref 39 40), (0, .class_ 41), (0, .nameAndType 42 43), (0, u "java/lang/String"), (0, u "valueOf"), (0, u "(C)Ljava/lang/String;"), (0, .methodref 39 45), (0, .nameAndType 5 46), (0, u "([C)V"), (2, u "law"), (0, u "(IIIII)Z")] 3

def k1m0 : Method := { name := "<init>", desc := "()V", sig := { parameters := [], returnType := none }, accessFlags := 1, code := none }
def k1c1 : Code := { maxStack := 4, maxLocals := 12, code := code, exceptionTable := #[], attributes := #[] }
def k1m1 : Method := { name := "law", desc := "(IIIII)Z", sig := { parameters := [.int, .int, .int, .int, .int], returnType := some .boolean }, accessFlags := 9, code := some k1c1 }
def k1c2 : Code := { maxStack := 2, maxLocals := 1, code := method_3_code, exceptionTable := #[], attributes := #[] }
def k1m2 : Method := { name := "len", desc := "(I)I", sig := { parameters := [.int], returnType := some .int }, accessFlags := 10, code := some k1c2 }
def k1c3 : Code := { maxStack := 6, maxLocals := 4, code := method_4_code, exceptionTable := #[], attributes := #[] }
def k1m3 : Method := { name := "str", desc := "(I)Ljava/lang/String;", sig := { parameters := [.int], returnType := some (.object "java/lang/String") }, accessFlags := 10, code := some k1c3 }
def k1c4 : Code := { maxStack := 3, maxLocals := 4, code := method_5_code, exceptionTable := #[], attributes := #[] }
def k1m4 : Method := { name := "same", desc := "(II)Z", sig := { parameters := [.int, .int], returnType := some .boolean }, accessFlags := 10, code := some k1c4 }
/-- com/example/axis3/axis3/model/ShardEqualsPinLaw -/
def k1 : Class := { plain "com/example/axis3/axis3/model/ShardEqualsPinLaw" (some 0) with
  accessFlags := 49
  interfaces := #[]
  cf := some (fileOf pool1 10 #[] #[{ accessFlags := 1, nameIndex := 5, descriptorIndex := 6, attributes := #[] }, { accessFlags := 9, nameIndex := 49, descriptorIndex := 50, attributes := #[] }, { accessFlags := 10, nameIndex := 34, descriptorIndex := 35, attributes := #[] }, { accessFlags := 10, nameIndex := 13, descriptorIndex := 14, attributes := #[] }, { accessFlags := 10, nameIndex := 20, descriptorIndex := 21, attributes := #[] }] 49 2 #[] #[])
  fields := #[]
  methods := #[k1m0, k1m1, k1m2, k1m3, k1m4]
  instanceTypes := #[]
  staticTypes := #[]
  resolved := Array.replicate 54 none
  statics := none }

def pool2 : Array CpInfo := pool [(1, .methodref 2 3), (0, .class_ 4), (0, .nameAndType 5 6), (0, u "java/lang/Object"), (0, u "<init>"), (0, u "()V"), (0, .string 8), (0, u "name"), (0, .methodref 10 11), (0, .class_ 12), (0, .nameAndType 13 14), (0, u "java/util/Objects"), (0, u "requireNonNull"), (0, u "(Ljava/lang/Object;Ljava/lang/String;)Ljava/lang/Object;"), (0, .class_ 16), (0, u "java/lang/String"), (0, .fieldref 18 19), (0, .class_ 20), (0, .nameAndType 8 21), (0, u "com/example/axis3/axis3/model/Shard"), (0, u "Ljava/lang/String;"), (0, .string 23), (0, u "url"), (0, .fieldref 18 25), (0, .nameAndType 23 21), (0, .methodref 15 27), (0, .nameAndType 28 29), (0, u "equals"), (0, u "(Ljava/lang/Object;)Z"), (8, u "(Ljava/lang/String;Ljava/lang/String;)V")] 24

def k2c0 : Code := { maxStack := 3, maxLocals := 3, code := prog_47_method_1_code, exceptionTable := #[], attributes := #[] }
def k2m0 : Method := { name := "<init>", desc := "(Ljava/lang/String;Ljava/lang/String;)V", sig := { parameters := [(.object "java/lang/String"), (.object "java/lang/String")], returnType := none }, accessFlags := 1, code := some k2c0 }
def k2c1 : Code := { maxStack := 2, maxLocals := 2, code := prog_47_method_4_code, exceptionTable := #[], attributes := #[] }
def k2m1 : Method := { name := "equals", desc := "(Ljava/lang/Object;)Z", sig := { parameters := [(.object "java/lang/Object")], returnType := some .boolean }, accessFlags := 1, code := some k2c1 }
/-- com/example/axis3/axis3/model/Shard -/
def k2 : Class := { plain "com/example/axis3/axis3/model/Shard" (some 0) with
  accessFlags := 33
  interfaces := #[]
  cf := some (fileOf pool2 18 #[] #[{ accessFlags := 1, nameIndex := 5, descriptorIndex := 38, attributes := #[] }, { accessFlags := 1, nameIndex := 28, descriptorIndex := 29, attributes := #[] }] 33 2 #[] #[{ accessFlags := 18, nameIndex := 8, descriptorIndex := 21, attributes := #[] }, { accessFlags := 18, nameIndex := 23, descriptorIndex := 21, attributes := #[] }])
  fields := #[{ name := "name", type := (.object "java/lang/String"), accessFlags := 18, slot := 0, constantValue := 0 }, { name := "url", type := (.object "java/lang/String"), accessFlags := 18, slot := 1, constantValue := 0 }]
  methods := #[k2m0, k2m1]
  instanceTypes := #[(.object "java/lang/String"), (.object "java/lang/String")]
  staticTypes := #[]
  resolved := Array.replicate 63 none
  statics := none }

def pool3 : Array CpInfo := pool [(1, .class_ 2), (0, u "java/lang/Math"), (1, .class_ 6), (1, u "java/lang/Object"), (0, u "<init>"), (0, u "()V"), (89, .class_ 100), (1, u "java/lang/Math$RandomNumberGeneratorHolder"), (71, u "negativeZeroFloatBits"), (0, u "J"), (2, u "negativeZeroDoubleBits"), (24, u "min"), (43, u "$assertionsDisabled"), (0, u "Z"), (88, u "(II)I"), (2, u "twoToTheDoubleScaleDown"), (0, u "D"), (4, u "twoToTheDoubleScaleUp"), (9, u "E"), (3, u "PI"), (2, u "TAU"), (2, u "DEGREES_TO_RADIANS"), (0, u "RADIANS_TO_DEGREES")] 94

def k3m0 : Method := { name := "<init>", desc := "()V", sig := { parameters := [], returnType := none }, accessFlags := 2, code := none }
def k3c1 : Code := { maxStack := 2, maxLocals := 2, code := jdk_29_method_69_code, exceptionTable := #[], attributes := #[] }
def k3m1 : Method := { name := "min", desc := "(II)I", sig := { parameters := [.int, .int], returnType := some .int }, accessFlags := 9, code := some k3c1 }
/-- java/lang/Math -/
def k3 : Class := { plain "java/lang/Math" (some 0) with
  accessFlags := 49
  interfaces := #[]
  cf := some (fileOf pool3 1 #[.nestMembers #[98]] #[{ accessFlags := 2, nameIndex := 7, descriptorIndex := 8, attributes := #[] }, { accessFlags := 9, nameIndex := 201, descriptorIndex := 335, attributes := #[] }] 49 4 #[] #[{ accessFlags := 25, nameIndex := 354, descriptorIndex := 339, attributes := #[] }, { accessFlags := 25, nameIndex := 358, descriptorIndex := 339, attributes := #[] }, { accessFlags := 25, nameIndex := 361, descriptorIndex := 339, attributes := #[] }, { accessFlags := 26, nameIndex := 364, descriptorIndex := 339, attributes := #[] }, { accessFlags := 26, nameIndex := 365, descriptorIndex := 339, attributes := #[] }, { accessFlags := 26, nameIndex := 172, descriptorIndex := 173, attributes := #[] }, { accessFlags := 26, nameIndex := 176, descriptorIndex := 173, attributes := #[] }, { accessFlags := 8, nameIndex := 344, descriptorIndex := 339, attributes := #[] }, { accessFlags := 8, nameIndex := 338, descriptorIndex := 339, attributes := #[] }, { accessFlags := 4120, nameIndex := 245, descriptorIndex := 246, attributes := #[] }])
  fields := #[{ name := "E", type := .double, accessFlags := 25, slot := 0, constantValue := 0 }, { name := "PI", type := .double, accessFlags := 25, slot := 1, constantValue := 0 }, { name := "TAU", type := .double, accessFlags := 25, slot := 2, constantValue := 0 }, { name := "DEGREES_TO_RADIANS", type := .double, accessFlags := 26, slot := 3, constantValue := 0 }, { name := "RADIANS_TO_DEGREES", type := .double, accessFlags := 26, slot := 4, constantValue := 0 }, { name := "negativeZeroFloatBits", type := .long, accessFlags := 26, slot := 5, constantValue := 0 }, { name := "negativeZeroDoubleBits", type := .long, accessFlags := 26, slot := 6, constantValue := 0 }, { name := "twoToTheDoubleScaleUp", type := .double, accessFlags := 8, slot := 7, constantValue := 0 }, { name := "twoToTheDoubleScaleDown", type := .double, accessFlags := 8, slot := 8, constantValue := 0 }, { name := "$assertionsDisabled", type := .boolean, accessFlags := 4120, slot := 9, constantValue := 0 }]
  methods := #[k3m0, k3m1]
  instanceTypes := #[]
  staticTypes := #[.double, .double, .double, .double, .double, .long, .long, .double, .double, .boolean]
  resolved := Array.replicate 460 none
  statics := none }

def pool4 : Array CpInfo := pool [(1, .class_ 2), (0, u "java/io/Serializable"), (0, .class_ 4), (0, u "java/lang/Object")] 2

/-- java/io/Serializable -/
def k4 : Class := { plain "java/io/Serializable" (some 0) with
  accessFlags := 1537
  interfaces := #[]
  cf := some (fileOf pool4 1 #[] #[] 1537 3 #[] #[])
  fields := #[]
  methods := #[]
  instanceTypes := #[]
  staticTypes := #[]
  resolved := Array.replicate 7 none
  statics := none }

def pool5 : Array CpInfo := pool [(1, .class_ 2), (0, u "java/lang/Comparable"), (0, .class_ 4), (0, u "java/lang/Object")] 7

/-- java/lang/Comparable -/
def k5 : Class := { plain "java/lang/Comparable" (some 0) with
  accessFlags := 1537
  interfaces := #[]
  cf := some (fileOf pool5 1 #[] #[] 1537 3 #[] #[])
  fields := #[]
  methods := #[]
  instanceTypes := #[]
  staticTypes := #[]
  resolved := Array.replicate 12 none
  statics := none }

def pool6 : Array CpInfo := pool [(2, .class_ 4), (1, u "java/lang/CharSequence"), (42, .class_ 48), (0, u "java/lang/CharSequence$1CodePointIterator"), (10, .class_ 60), (0, u "java/lang/CharSequence$1CharIterator"), (5, .class_ 67), (0, u "java/lang/Object")] 63

/-- java/lang/CharSequence -/
def k6 : Class := { plain "java/lang/CharSequence" (some 0) with
  accessFlags := 1537
  interfaces := #[]
  cf := some (fileOf pool6 2 #[.nestMembers #[47, 59]] #[] 1537 66 #[] #[])
  fields := #[]
  methods := #[]
  instanceTypes := #[]
  staticTypes := #[]
  resolved := Array.replicate 131 none
  statics := none }

def pool7 : Array CpInfo := pool [(1, .class_ 2), (0, u "java/lang/constant/Constable"), (0, .class_ 4), (0, u "java/lang/Object")] 6

/-- java/lang/constant/Constable -/
def k7 : Class := { plain "java/lang/constant/Constable" (some 0) with
  accessFlags := 1537
  interfaces := #[]
  cf := some (fileOf pool7 1 #[] #[] 1537 3 #[] #[])
  fields := #[]
  methods := #[]
  instanceTypes := #[]
  staticTypes := #[]
  resolved := Array.replicate 11 none
  statics := none }

def pool8 : Array CpInfo := pool [(1, .class_ 2), (0, u "java/lang/constant/ConstantDesc"), (0, .class_ 4), (0, u "java/lang/Object")] 32

/-- java/lang/constant/ConstantDesc -/
def k8 : Class := { plain "java/lang/constant/ConstantDesc" (some 0) with
  accessFlags := 1537
  interfaces := #[]
  cf := some (fileOf pool8 1 #[] #[] 1537 3 #[] #[])
  fields := #[]
  methods := #[]
  instanceTypes := #[]
  staticTypes := #[]
  resolved := Array.replicate 37 none
  statics := none }

def pool9 : Array CpInfo := pool [(1, .methodref 2 3), (0, .class_ 4), (0, .nameAndType 5 6), (0, u "java/lang/Object"), (0, u "<init>"), (0, u "()V"), (2, .fieldref 10 11), (0, .class_ 12), (0, .nameAndType 13 14), (0, u "java/lang/String"), (0, u "value"), (0, u "[B"), (0, .fieldref 10 16), (0, .nameAndType 17 18), (0, u "coder"), (0, u "B"), (2, u "hash"), (0, u "I"), (2, u "hashIsZero"), (0, u "Z"), (0, .methodref 10 28), (0, .nameAndType 5 29), (0, u "([CIILjava/lang/Void;)V"), (8, .fieldref 10 39), (0, .nameAndType 40 26), (0, u "COMPACT_STRINGS"), (1, .class_ 44), (1, u "java/lang/StringUTF16"), (0, u "compress"), (1, .methodref 42 48), (0, .nameAndType 49 50), (0, u "coderFromArrayLen"), (0, u "([BI)B"), (2, u "toBytes"), (53, .class_ 109), (1, u "java/lang/StringLatin1"), (67, .methodref 42 178), (0, .nameAndType 45 179), (0, u "([CII)[B"), (29, .methodref 10 210), (0, .nameAndType 5 211), (0, u "([BB)V"), (157, u "(C)Z"), (171, .methodref 107 542), (0, .nameAndType 543 544), (0, u "equals"), (0, u "([B[B)Z"), (28, u "(Ljava/lang/Object;)Z"), (1, .class_ 576), (0, u "java/lang/CharSequence"), (22, u "CASE_INSENSITIVE_ORDER"), (0, u "Ljava/util/Comparator;"), (181, u "valueOf"), (0, u "(C)Ljava/lang/String;"), (226, u "([C)V"), (4, .methodref 107 1016), (0, .nameAndType 1017 369), (0, u "canEncode"), (0, .methodref 107 1019), (0, .nameAndType 53 1020), (0, u "(C)[B"), (80, u "serialPersistentFields"), (0, u "[Ljava/io/ObjectStreamField;"), (0, .class_ 1104), (0, u "java/lang/String$CaseInsensitiveComparator"), (1, .class_ 1107), (0, u "java/io/Serializable"), (0, .class_ 1109), (0, u "java/lang/Comparable"), (0, .class_ 1111), (0, u "java/lang/constant/Constable"), (0, .class_ 1113), (0, u "java/lang/constant/ConstantDesc"), (2, u "serialVersionUID"), (0, u "J"), (3, u "REPL"), (0, u "C"), (2, u "LATIN1"), (1, u "UTF16")] 323

def k9m0 : Method := { name := "<init>", desc := "()V", sig := { parameters := [], returnType := none }, accessFlags := 1, code := none }
def k9c1 : Code := { maxStack := 5, maxLocals := 2, code := jdk_42_method_3_code, exceptionTable := #[], attributes := #[] }
def k9m1 : Method := { name := "<init>", desc := "([C)V", sig := { parameters := [(.array .char)], returnType := none }, accessFlags := 1, code := some k9c1 }
def k9c2 : Code := { maxStack := 2, maxLocals := 3, code := jdk_42_method_66_code, exceptionTable := #[], attributes := #[] }
def k9m2 : Method := { name := "equals", desc := "(Ljava/lang/Object;)Z", sig := { parameters := [(.object "java/lang/Object")], returnType := some .boolean }, accessFlags := 1, code := some k9c2 }
def k9c3 : Code := { maxStack := 4, maxLocals := 1, code := jdk_42_method_139_code, exceptionTable := #[], attributes := #[] }
def k9m3 : Method := { name := "valueOf", desc := "(C)Ljava/lang/String;", sig := { parameters := [.char], returnType := some (.object "java/lang/String") }, accessFlags := 9, code := some k9c3 }
def k9c4 : Code := { maxStack := 4, maxLocals := 6, code := jdk_42_method_149_code, exceptionTable := #[], attributes := #[] }
def k9m4 : Method := { name := "<init>", desc := "([CIILjava/lang/Void;)V", sig := { parameters := [(.array .char), .int, .int, (.object "java/lang/Void")], returnType := none }, accessFlags := 2, code := some k9c4 }
def k9c5 : Code := { maxStack := 2, maxLocals := 3, code := jdk_42_method_151_code, exceptionTable := #[], attributes := #[] }
def k9m5 : Method := { name := "<init>", desc := "([BB)V", sig := { parameters := [(.array .byte), .byte], returnType := none }, accessFlags := 0, code := some k9c5 }
/-- java/lang/String -/
def k9 : Class := { plain "java/lang/String" (some 0) with
  accessFlags := 49
  interfaces := #[4, 5, 6, 7, 8]
  cf := some (fileOf pool9 10 #[.nestMembers #[1103]] #[{ accessFlags := 1, nameIndex := 5, descriptorIndex := 6, attributes := #[] }, { accessFlags := 1, nameIndex := 5, descriptorIndex := 1010, attributes := #[] }, { accessFlags := 1, nameIndex := 543, descriptorIndex := 573, attributes := #[] }, { accessFlags := 9, nameIndex := 782, descriptorIndex := 783, attributes := #[] }, { accessFlags := 2, nameIndex := 5, descriptorIndex := 29, attributes := #[] }, { accessFlags := 0, nameIndex := 5, descriptorIndex := 211, attributes := #[] }] 49 2 #[1106, 1108, 575, 1110, 1112] #[{ accessFlags := 18, nameIndex := 13, descriptorIndex := 14, attributes := #[] }, { accessFlags := 18, nameIndex := 17, descriptorIndex := 18, attributes := #[] }, { accessFlags := 2, nameIndex := 21, descriptorIndex := 22, attributes := #[] }, { accessFlags := 2, nameIndex := 25, descriptorIndex := 26, attributes := #[] }, { accessFlags := 26, nameIndex := 1116, descriptorIndex := 1117, attributes := #[] }, { accessFlags := 24, nameIndex := 40, descriptorIndex := 26, attributes := #[] }, { accessFlags := 26, nameIndex := 1101, descriptorIndex := 1102, attributes := #[] }, { accessFlags := 26, nameIndex := 1121, descriptorIndex := 1122, attributes := #[] }, { accessFlags := 25, nameIndex := 599, descriptorIndex := 600, attributes := #[] }, { accessFlags := 24, nameIndex := 1125, descriptorIndex := 18, attributes := #[] }, { accessFlags := 24, nameIndex := 1127, descriptorIndex := 18, attributes := #[] }])
  fields := #[{ name := "value", type := (.array .byte), accessFlags := 18, slot := 0, constantValue := 0 }, { name := "coder", type := .byte, accessFlags := 18, slot := 1, constantValue := 0 }, { name := "hash", type := .int, accessFlags := 2, slot := 2, constantValue := 0 }, { name := "hashIsZero", type := .boolean, accessFlags := 2, slot := 3, constantValue := 0 }, { name := "serialVersionUID", type := .long, accessFlags := 26, slot := 0, constantValue := 0 }, { name := "COMPACT_STRINGS", type := .boolean, accessFlags := 24, slot := 1, constantValue := 0 }, { name := "serialPersistentFields", type := (.array (.object "java/io/ObjectStreamField")), accessFlags := 26, slot := 2, constantValue := 0 }, { name := "REPL", type := .char, accessFlags := 26, slot := 3, constantValue := 0 }, { name := "CASE_INSENSITIVE_ORDER", type := (.object "java/util/Comparator"), accessFlags := 25, slot := 4, constantValue := 0 }, { name := "LATIN1", type := .byte, accessFlags := 24, slot := 5, constantValue := 0 }, { name := "UTF16", type := .byte, accessFlags := 24, slot := 6, constantValue := 0 }]
  methods := #[k9m0, k9m1, k9m2, k9m3, k9m4, k9m5]
  instanceTypes := #[(.array .byte), .byte, .int, .boolean]
  staticTypes := #[.long, .boolean, (.array (.object "java/io/ObjectStreamField")), .char, (.object "java/util/Comparator"), .byte, .byte]
  resolved := Array.replicate 1451 none
  statics := some 0 }

def pool10 : Array CpInfo := pool [(2, .class_ 4), (1, u "java/lang/Object"), (0, u "<init>"), (0, u "()V"), (35, .class_ 44), (1, u "java/util/Objects"), (0, u "requireNonNull"), (48, u "(Ljava/lang/Object;Ljava/lang/String;)Ljava/lang/Object;")] 89

def k10m0 : Method := { name := "<init>", desc := "()V", sig := { parameters := [], returnType := none }, accessFlags := 2, code := none }
def k10c1 : Code := { maxStack := 3, maxLocals := 2, code := jdk_31_method_11_code, exceptionTable := #[], attributes := #[] }
def k10m1 : Method := { name := "requireNonNull", desc := "(Ljava/lang/Object;Ljava/lang/String;)Ljava/lang/Object;", sig := { parameters := [(.object "java/lang/Object"), (.object "java/lang/String")], returnType := some (.object "java/lang/Object") }, accessFlags := 9, code := some k10c1 }
/-- java/util/Objects -/
def k10 : Class := { plain "java/util/Objects" (some 0) with
  accessFlags := 49
  interfaces := #[]
  cf := some (fileOf pool10 42 #[] #[{ accessFlags := 2, nameIndex := 5, descriptorIndex := 6, attributes := #[] }, { accessFlags := 9, nameIndex := 45, descriptorIndex := 94, attributes := #[] }] 49 2 #[] #[])
  fields := #[]
  methods := #[k10m0, k10m1]
  instanceTypes := #[]
  staticTypes := #[]
  resolved := Array.replicate 184 none
  statics := none }

def pool11 : Array CpInfo := pool [(6, .class_ 8), (1, u "java/lang/Object"), (0, u "<init>"), (0, u "()V"), (1, .class_ 14), (1, u "java/lang/StringUTF16"), (31, u "$assertionsDisabled"), (0, u "Z"), (13, u "HI_BYTE_SHIFT"), (0, u "I"), (2, u "LO_BYTE_SHIFT"), (49, .methodref 12 116), (0, .nameAndType 117 118), (0, u "compress"), (0, u "([CI[BII)I"), (3, u "([CII)[B"), (138, u "coderFromArrayLen"), (0, u "([BI)B"), (106, .class_ 371), (1, u "java/lang/StringUTF16$LinesSpliterator"), (58, u "MAX_LENGTH"), (196, .class_ 628), (0, u "java/lang/StringUTF16$CodePointsSpliterator"), (0, .class_ 630), (0, u "java/lang/StringUTF16$CharsSpliterator")] 4

def k11m0 : Method := { name := "<init>", desc := "()V", sig := { parameters := [], returnType := none }, accessFlags := 0, code := none }
def k11c1 : Code := { maxStack := 2, maxLocals := 2, code := jdk_52_method_15_code, exceptionTable := #[], attributes := #[] }
def k11m1 : Method := { name := "coderFromArrayLen", desc := "([BI)B", sig := { parameters := [(.array .byte), .int], returnType := some .byte }, accessFlags := 8, code := some k11c1 }
def k11c2 : Code := { maxStack := 5, maxLocals := 6, code := jdk_52_method_16_code, exceptionTable := #[], attributes := #[] }
def k11m2 : Method := { name := "compress", desc := "([CII)[B", sig := { parameters := [(.array .char), .int, .int], returnType := some (.array .byte) }, accessFlags := 9, code := some k11c2 }
def k11c3 : Code := { maxStack := 3, maxLocals := 7, code := jdk_52_method_21_code, exceptionTable := #[], attributes := #[] }
def k11m3 : Method := { name := "compress", desc := "([CI[BII)I", sig := { parameters := [(.array .char), .int, (.array .byte), .int, .int], returnType := some .int }, accessFlags := 9, code := some k11c3 }
/-- java/lang/StringUTF16 -/
def k11 : Class := { plain "java/lang/StringUTF16" (some 0) with
  accessFlags := 48
  interfaces := #[]
  cf := some (fileOf pool11 12 #[.nestMembers #[627, 629, 369]] #[{ accessFlags := 0, nameIndex := 9, descriptorIndex := 10, attributes := #[] }, { accessFlags := 8, nameIndex := 261, descriptorIndex := 262, attributes := #[] }, { accessFlags := 9, nameIndex := 117, descriptorIndex := 122, attributes := #[] }, { accessFlags := 9, nameIndex := 117, descriptorIndex := 118, attributes := #[] }] 48 6 #[] #[{ accessFlags := 26, nameIndex := 61, descriptorIndex := 62, attributes := #[] }, { accessFlags := 26, nameIndex := 65, descriptorIndex := 62, attributes := #[] }, { accessFlags := 24, nameIndex := 430, descriptorIndex := 62, attributes := #[] }, { accessFlags := 4120, nameIndex := 46, descriptorIndex := 47, attributes := #[] }])
  fields := #[{ name := "HI_BYTE_SHIFT", type := .int, accessFlags := 26, slot := 0, constantValue := 0 }, { name := "LO_BYTE_SHIFT", type := .int, accessFlags := 26, slot := 1, constantValue := 0 }, { name := "MAX_LENGTH", type := .int, accessFlags := 24, slot := 2, constantValue := 0 }, { name := "$assertionsDisabled", type := .boolean, accessFlags := 4120, slot := 3, constantValue := 0 }]
  methods := #[k11m0, k11m1, k11m2, k11m3]
  instanceTypes := #[]
  staticTypes := #[.int, .int, .int, .boolean]
  resolved := Array.replicate 635 none
  statics := none }

def pool12 : Array CpInfo := pool [(4, .class_ 6), (1, u "java/lang/Object"), (0, u "<init>"), (0, u "()V"), (5, .class_ 16), (1, u "java/lang/StringLatin1"), (73, u "canEncode"), (14, u "(C)Z"), (15, u "$assertionsDisabled"), (0, u "Z"), (98, .class_ 223), (1, u "java/lang/StringLatin1$LinesSpliterator"), (57, u "equals"), (0, u "([B[B)Z"), (97, u "toBytes"), (1, u "(C)[B"), (7, .class_ 391), (0, u "java/lang/StringLatin1$CharsSpliterator")] 3

def k12m0 : Method := { name := "<init>", desc := "()V", sig := { parameters := [], returnType := none }, accessFlags := 0, code := none }
def k12c1 : Code := { maxStack := 2, maxLocals := 1, code := jdk_43_method_3_code, exceptionTable := #[], attributes := #[] }
def k12m1 : Method := { name := "canEncode", desc := "(C)Z", sig := { parameters := [.char], returnType := some .boolean }, accessFlags := 9, code := some k12c1 }
def k12c2 : Code := { maxStack := 3, maxLocals := 3, code := jdk_43_method_13_code, exceptionTable := #[], attributes := #[] }
def k12m2 : Method := { name := "equals", desc := "([B[B)Z", sig := { parameters := [(.array .byte), (.array .byte)], returnType := some .boolean }, accessFlags := 9, code := some k12c2 }
def k12c3 : Code := { maxStack := 4, maxLocals := 1, code := jdk_43_method_46_code, exceptionTable := #[], attributes := #[] }
def k12m3 : Method := { name := "toBytes", desc := "(C)[B", sig := { parameters := [.char], returnType := some (.array .byte) }, accessFlags := 9, code := some k12c3 }
/-- java/lang/StringLatin1 -/
def k12 : Class := { plain "java/lang/StringLatin1" (some 0) with
  accessFlags := 48
  interfaces := #[]
  cf := some (fileOf pool12 14 #[.nestMembers #[390, 221]] #[{ accessFlags := 0, nameIndex := 7, descriptorIndex := 8, attributes := #[] }, { accessFlags := 9, nameIndex := 90, descriptorIndex := 105, attributes := #[] }, { accessFlags := 9, nameIndex := 281, descriptorIndex := 282, attributes := #[] }, { accessFlags := 9, nameIndex := 380, descriptorIndex := 382, attributes := #[] }] 48 4 #[] #[{ accessFlags := 4120, nameIndex := 121, descriptorIndex := 122, attributes := #[] }])
  fields := #[{ name := "$assertionsDisabled", type := .boolean, accessFlags := 4120, slot := 0, constantValue := 0 }]
  methods := #[k12m0, k12m1, k12m2, k12m3]
  instanceTypes := #[]
  staticTypes := #[.boolean]
  resolved := Array.replicate 395 none
  statics := none }

def pool13 : Array CpInfo := pool [(2, .class_ 4), (1, u "java/lang/Object"), (0, u "<init>"), (0, u "()V"), (17, .class_ 26), (1, u "jdk/internal/util/Preconditions"), (28, .class_ 56), (0, u "jdk/internal/util/Preconditions$4"), (57, .class_ 115), (0, u "jdk/internal/util/Preconditions$1"), (7, u "SIOOBE_FORMATTER"), (0, u "Ljava/util/function/BiFunction;"), (0, .class_ 126), (0, u "jdk/internal/util/Preconditions$2"), (3, u "AIOOBE_FORMATTER"), (0, .class_ 132), (0, u "jdk/internal/util/Preconditions$3"), (3, u "IOOBE_FORMATTER")] 57

def k13m0 : Method := { name := "<init>", desc := "()V", sig := { parameters := [], returnType := none }, accessFlags := 1, code := none }
/-- jdk/internal/util/Preconditions -/
def k13 : Class := { plain "jdk/internal/util/Preconditions" (some 0) with
  accessFlags := 33
  interfaces := #[]
  cf := some (fileOf pool13 24 #[.nestMembers #[55, 131, 125, 114]] #[{ accessFlags := 1, nameIndex := 5, descriptorIndex := 6, attributes := #[] }] 33 2 #[] #[{ accessFlags := 25, nameIndex := 123, descriptorIndex := 124, attributes := #[] }, { accessFlags := 25, nameIndex := 130, descriptorIndex := 124, attributes := #[] }, { accessFlags := 25, nameIndex := 136, descriptorIndex := 124, attributes := #[] }])
  fields := #[{ name := "SIOOBE_FORMATTER", type := (.object "java/util/function/BiFunction"), accessFlags := 25, slot := 0, constantValue := 0 }, { name := "AIOOBE_FORMATTER", type := (.object "java/util/function/BiFunction"), accessFlags := 25, slot := 1, constantValue := 0 }, { name := "IOOBE_FORMATTER", type := (.object "java/util/function/BiFunction"), accessFlags := 25, slot := 2, constantValue := 0 }]
  methods := #[k13m0]
  instanceTypes := #[]
  staticTypes := #[(.object "java/util/function/BiFunction"), (.object "java/util/function/BiFunction"), (.object "java/util/function/BiFunction")]
  resolved := Array.replicate 194 none
  statics := some 1 }

def pool14 : Array CpInfo := pool [(9, u "<init>"), (6, .class_ 18), (1, u "java/lang/Object"), (0, u "()V"), (1, .class_ 23), (1, u "jdk/internal/util/ArraysSupport"), (0, u "LOG2_ARRAY_LONG_INDEX_SCALE"), (0, u "I"), (2, u "U"), (0, u "Ljdk/internal/misc/Unsafe;"), (8, u "BIG_ENDIAN"), (0, u "Z"), (8, u "LOG2_BYTE_BIT_SIZE"), (4, u "LOG2_ARRAY_INT_INDEX_SCALE"), (54, u "JLA"), (0, u "Ljdk/internal/access/JavaLangAccess;"), (11, u "LOG2_ARRAY_BOOLEAN_INDEX_SCALE"), (9, u "LOG2_ARRAY_BYTE_INDEX_SCALE"), (5, u "LOG2_ARRAY_CHAR_INDEX_SCALE"), (5, u "LOG2_ARRAY_SHORT_INDEX_SCALE"), (18, u "LOG2_ARRAY_FLOAT_INDEX_SCALE"), (24, u "LOG2_ARRAY_DOUBLE_INDEX_SCALE"), (89, u "T_BOOLEAN"), (2, u "T_CHAR"), (1, u "T_FLOAT"), (1, u "T_DOUBLE"), (1, u "T_BYTE"), (1, u "T_SHORT"), (1, u "T_INT"), (1, u "T_LONG"), (1, u "SOFT_MAX_ARRAY_LENGTH")] 83

def k14m0 : Method := { name := "<init>", desc := "()V", sig := { parameters := [], returnType := none }, accessFlags := 2, code := none }
/-- jdk/internal/util/ArraysSupport -/
def k14 : Class := { plain "jdk/internal/util/ArraysSupport" (some 0) with
  accessFlags := 33
  interfaces := #[]
  cf := some (fileOf pool14 21 #[] #[{ accessFlags := 2, nameIndex := 9, descriptorIndex := 19, attributes := #[] }] 33 16 #[] #[{ accessFlags := 24, nameIndex := 28, descriptorIndex := 29, attributes := #[] }, { accessFlags := 26, nameIndex := 38, descriptorIndex := 39, attributes := #[] }, { accessFlags := 25, nameIndex := 121, descriptorIndex := 25, attributes := #[] }, { accessFlags := 25, nameIndex := 131, descriptorIndex := 25, attributes := #[] }, { accessFlags := 25, nameIndex := 137, descriptorIndex := 25, attributes := #[] }, { accessFlags := 25, nameIndex := 143, descriptorIndex := 25, attributes := #[] }, { accessFlags := 25, nameIndex := 53, descriptorIndex := 25, attributes := #[] }, { accessFlags := 25, nameIndex := 24, descriptorIndex := 25, attributes := #[] }, { accessFlags := 25, nameIndex := 162, descriptorIndex := 25, attributes := #[] }, { accessFlags := 25, nameIndex := 187, descriptorIndex := 25, attributes := #[] }, { accessFlags := 26, nameIndex := 48, descriptorIndex := 25, attributes := #[] }, { accessFlags := 25, nameIndex := 277, descriptorIndex := 25, attributes := #[] }, { accessFlags := 25, nameIndex := 280, descriptorIndex := 25, attributes := #[] }, { accessFlags := 25, nameIndex := 282, descriptorIndex := 25, attributes := #[] }, { accessFlags := 25, nameIndex := 284, descriptorIndex := 25, attributes := #[] }, { accessFlags := 25, nameIndex := 286, descriptorIndex := 25, attributes := #[] }, { accessFlags := 25, nameIndex := 288, descriptorIndex := 25, attributes := #[] }, { accessFlags := 25, nameIndex := 290, descriptorIndex := 25, attributes := #[] }, { accessFlags := 25, nameIndex := 292, descriptorIndex := 25, attributes := #[] }, { accessFlags := 26, nameIndex := 108, descriptorIndex := 109, attributes := #[] }, { accessFlags := 25, nameIndex := 294, descriptorIndex := 25, attributes := #[] }])
  fields := #[{ name := "U", type := (.object "jdk/internal/misc/Unsafe"), accessFlags := 24, slot := 0, constantValue := 0 }, { name := "BIG_ENDIAN", type := .boolean, accessFlags := 26, slot := 1, constantValue := 0 }, { name := "LOG2_ARRAY_BOOLEAN_INDEX_SCALE", type := .int, accessFlags := 25, slot := 2, constantValue := 0 }, { name := "LOG2_ARRAY_BYTE_INDEX_SCALE", type := .int, accessFlags := 25, slot := 3, constantValue := 0 }, { name := "LOG2_ARRAY_CHAR_INDEX_SCALE", type := .int, accessFlags := 25, slot := 4, constantValue := 0 }, { name := "LOG2_ARRAY_SHORT_INDEX_SCALE", type := .int, accessFlags := 25, slot := 5, constantValue := 0 }, { name := "LOG2_ARRAY_INT_INDEX_SCALE", type := .int, accessFlags := 25, slot := 6, constantValue := 0 }, { name := "LOG2_ARRAY_LONG_INDEX_SCALE", type := .int, accessFlags := 25, slot := 7, constantValue := 0 }, { name := "LOG2_ARRAY_FLOAT_INDEX_SCALE", type := .int, accessFlags := 25, slot := 8, constantValue := 0 }, { name := "LOG2_ARRAY_DOUBLE_INDEX_SCALE", type := .int, accessFlags := 25, slot := 9, constantValue := 0 }, { name := "LOG2_BYTE_BIT_SIZE", type := .int, accessFlags := 26, slot := 10, constantValue := 0 }, { name := "T_BOOLEAN", type := .int, accessFlags := 25, slot := 11, constantValue := 0 }, { name := "T_CHAR", type := .int, accessFlags := 25, slot := 12, constantValue := 0 }, { name := "T_FLOAT", type := .int, accessFlags := 25, slot := 13, constantValue := 0 }, { name := "T_DOUBLE", type := .int, accessFlags := 25, slot := 14, constantValue := 0 }, { name := "T_BYTE", type := .int, accessFlags := 25, slot := 15, constantValue := 0 }, { name := "T_SHORT", type := .int, accessFlags := 25, slot := 16, constantValue := 0 }, { name := "T_INT", type := .int, accessFlags := 25, slot := 17, constantValue := 0 }, { name := "T_LONG", type := .int, accessFlags := 25, slot := 18, constantValue := 0 }, { name := "JLA", type := (.object "jdk/internal/access/JavaLangAccess"), accessFlags := 26, slot := 19, constantValue := 0 }, { name := "SOFT_MAX_ARRAY_LENGTH", type := .int, accessFlags := 25, slot := 20, constantValue := 0 }]
  methods := #[k14m0]
  instanceTypes := #[]
  staticTypes := #[(.object "jdk/internal/misc/Unsafe"), .boolean, .int, .int, .int, .int, .int, .int, .int, .int, .int, .int, .int, .int, .int, .int, .int, .int, .int, (.object "jdk/internal/access/JavaLangAccess"), .int]
  resolved := Array.replicate 378 none
  statics := none }

def pool15 : Array CpInfo := pool [(1, u "java/lang/Cloneable"), (0, .class_ 1), (0, u "java/lang/Object"), (0, .class_ 3)] 3

/-- java/lang/Cloneable -/
def k15 : Class := { plain "java/lang/Cloneable" (some 0) with
  accessFlags := 1537
  interfaces := #[]
  cf := some (fileOf pool15 2 #[] #[] 1537 4 #[] #[])
  fields := #[]
  methods := #[]
  instanceTypes := #[]
  staticTypes := #[]
  resolved := Array.replicate 8 none
  statics := none }

/-- the primitive byte -/
def k16 : Class := { plain "byte" none with kind := .primitive 'B', accessFlags := 0x411 }
/-- [B -/
def k17 : Class := { plain "[B" (some 0) with kind := .array 16 .byte, interfaces := #[15, 4], accessFlags := 1041 }

/-- the primitive char -/
def k18 : Class := { plain "char" none with kind := .primitive 'C', accessFlags := 0x411 }
/-- [C -/
def k19 : Class := { plain "[C" (some 0) with kind := .array 18 .char, interfaces := #[15, 4], accessFlags := 1041 }

/-- the primitive int -/
def k20 : Class := { plain "int" none with kind := .primitive 'I', accessFlags := 0x411 }
/-- [I -/
def k21 : Class := { plain "[I" (some 0) with kind := .array 20 .int, interfaces := #[15, 4], accessFlags := 1041 }

def heap : Heap := #[{ cls := 9, slots := #[.long 0, .int 1, .null, .int 0, .null, .int 0, .int 0], vm := .statics 9 },
  { cls := 13, slots := #[.null, .null, .null], vm := .statics 13 }]
def classes : Array Class := #[k0, k1, k2, k3, k4, k5, k6, k7, k8, k9, k10, k11, k12, k13, k14, k15, k16, k17, k18, k19, k20, k21]
def interned : List (Array UInt16 × Addr) := []
def slotsUsed : Nat := 10
def theMethod : MethodId := ⟨1, 1⟩
def args0 : Array Value := #[.int 5, .int 6, .int 7, .int 8, .int 9]
def aboutOver (below : List Frame) : State where
  vm := { classes := classes, interned := interned.toArray }
  heap := heap
  slotsUsed := slotsUsed
  threads := #[{ frames := .invoking theMethod args0 :: below }]
def below0 : List Frame := [.native { method := ⟨0, 0⟩, args := #[] }]
def about1 : State := aboutOver below0
def p0 : Program := .bare "" "" ""
def e0 : Env := launch0.env 0 0 0
theorem w_frames : about1.frames = Frame.invoking theMethod args0 :: below0 := rfl
set_option maxRecDepth 65536 in
theorem w_args : argsFit about1.vm theMethod args0 = true := by decide +kernel
set_option maxRecDepth 65536 in
theorem w_heap : heapFits about1 = true := by decide +kernel
set_option maxRecDepth 65536 in
theorem w_runnable : about1.curStatus? = some .runnable := by decide +kernel
set_option maxRecDepth 65536 in
theorem w_alone : about1.alone = true := by decide +kernel
set_option maxRecDepth 65536 in
theorem w_named : about1.methodNamed? x = some theMethod := by decide +kernel
set_option maxRecDepth 65536 in
theorem w_hears : about1.hears theMethod below0 = true := by decide +kernel
set_option maxRecDepth 65536 in
theorem w_ripe : about1.ripe theMethod args0 below0 = true := by decide +kernel
theorem w_running : about1.status = .running := rfl
set_option maxRecDepth 65536 in
theorem w_room : about1.hasRoom e0.platform room_1 = true :=
  launch0.hasRoom_least _ room_1 (by decide +kernel) (by decide +kernel) (by decide +kernel) (by decide +kernel) (by decide +kernel) (by decide +kernel)
theorem allAtoms_all (ts : List Jvm.Cond) (a : Array Jvm.Value) (st : Jvm.State) : (allAtoms ts).before a st = ts.all (fun c => c.before a st) := by
  induction ts with
  | nil => rfl
  | cons c t ih =>
    show (Jvm.Cond.and c (allAtoms t)).before a st = _
    rw [Jvm.Cond.before_and, ih, List.all_cons]
def words1 : List Jvm.Cond := Jvm.Cond.code x code maxLocals ret :: tables_1
/-- a 'code' word, met by the world's own term for the bytes: nothing is compared byte by byte -/
theorem code_word {y : MethodName} {bytes : ByteArray} {mx : Nat} {rt : Option FieldType} {a : Array Value} {s : State} {m : MethodId} {meth : Method} {c : Code} (h1 : s.methodNamed? y = some m) (h2 : s.vm.method? m = some meth) (h3 : meth.code = some c) (h4 : c.code = bytes)
    (h5 : (c.maxLocals == mx && c.exceptionTable.isEmpty && decide (c.maxStack ≤ mostOperands) && decide (meth.sig.returnType = rt) && !meth.locks && decide (parseMethodDescriptor y.desc = some meth.sig)) = true) : (Jvm.Cond.code y bytes mx rt).before a s = true := by
  simp only [Bool.and_eq_true, beq_iff_eq, Bool.not_eq_true', decide_eq_true_eq] at h5
  obtain ⟨⟨⟨⟨⟨g1, g2⟩, g3⟩, g4⟩, g5⟩, g6⟩ := h5
  simp [Cond.before, Cond.holds, Cond.value, h1, h2, h3, h4, g1, g2, g3, g4, g5, g6]
def isCode : Jvm.Cond → Bool
  | .code _ _ _ _ => true
  | _ => false
theorem all_split {L : List Jvm.Cond} {P : Jvm.Cond → Bool} (h1 : L.all (fun c => isCode c || P c) = true) (h2 : ∀ c ∈ L.filter isCode, P c = true) : L.all P = true := by
  refine List.all_eq_true.mpr fun c hc => ?_
  have h := List.all_eq_true.mp h1 c hc
  rcases Bool.eq_false_or_eq_true (isCode c) with hi | hi
  · exact h2 c (List.mem_filter.mpr ⟨hc, hi⟩)
  · simpa [hi] using h
set_option maxRecDepth 65536 in
theorem w_c0 : (Jvm.Cond.code x code maxLocals ret).before args0 about1 = true := code_word (m := ⟨1, 1⟩) (meth := k1m1) (c := k1c1) (by decide +kernel) rfl rfl rfl (by decide +kernel)
set_option maxRecDepth 65536 in
theorem w_c1 : (Jvm.Cond.code ({ cls := "com/example/axis3/axis3/model/ShardEqualsPinLaw", name := "str", desc := "(I)Ljava/lang/String;" } : Jvm.MethodName) method_4_code (4 : Nat) (Option.some (Jvm.ClassFile.FieldType.object "java/lang/String"))).before args0 about1 = true := code_word (m := ⟨1, 3⟩) (meth := k1m3) (c := k1c3) (by decide +kernel) rfl rfl rfl (by decide +kernel)
set_option maxRecDepth 65536 in
theorem w_c2 : (Jvm.Cond.code ({ cls := "com/example/axis3/axis3/model/ShardEqualsPinLaw", name := "len", desc := "(I)I" } : Jvm.MethodName) method_3_code (1 : Nat) (Option.some Jvm.ClassFile.FieldType.int)).before args0 about1 = true := code_word (m := ⟨1, 2⟩) (meth := k1m2) (c := k1c2) (by decide +kernel) rfl rfl rfl (by decide +kernel)
set_option maxRecDepth 65536 in
theorem w_c3 : (Jvm.Cond.code ({ cls := "java/lang/Math", name := "min", desc := "(II)I" } : Jvm.MethodName) jdk_29_method_69_code (2 : Nat) (Option.some Jvm.ClassFile.FieldType.int)).before args0 about1 = true := code_word (m := ⟨3, 1⟩) (meth := k3m1) (c := k3c1) (by decide +kernel) rfl rfl rfl (by decide +kernel)
set_option maxRecDepth 65536 in
theorem w_c4 : (Jvm.Cond.code ({ cls := "com/example/axis3/axis3/model/Shard", name := "<init>", desc := "(Ljava/lang/String;Ljava/lang/String;)V" } : Jvm.MethodName) prog_47_method_1_code (3 : Nat) (Option.none : Option Jvm.ClassFile.FieldType)).before args0 about1 = true := code_word (m := ⟨2, 0⟩) (meth := k2m0) (c := k2c0) (by decide +kernel) rfl rfl rfl (by decide +kernel)
set_option maxRecDepth 65536 in
theorem w_c5 : (Jvm.Cond.code ({ cls := "java/lang/Object", name := "<init>", desc := "()V" } : Jvm.MethodName) object_method_1_code (1 : Nat) (Option.none : Option Jvm.ClassFile.FieldType)).before args0 about1 = true := code_word (m := ⟨0, 0⟩) (meth := k0m0) (c := k0c0) (by decide +kernel) rfl rfl rfl (by decide +kernel)
set_option maxRecDepth 65536 in
theorem w_c6 : (Jvm.Cond.code ({ cls := "java/util/Objects", name := "requireNonNull", desc := "(Ljava/lang/Object;Ljava/lang/String;)Ljava/lang/Object;" } : Jvm.MethodName) jdk_31_method_11_code (2 : Nat) (Option.some (Jvm.ClassFile.FieldType.object "java/lang/Object"))).before args0 about1 = true := code_word (m := ⟨10, 1⟩) (meth := k10m1) (c := k10c1) (by decide +kernel) rfl rfl rfl (by decide +kernel)
set_option maxRecDepth 65536 in
theorem w_c7 : (Jvm.Cond.code ({ cls := "com/example/axis3/axis3/model/Shard", name := "equals", desc := "(Ljava/lang/Object;)Z" } : Jvm.MethodName) prog_47_method_4_code (2 : Nat) (Option.some Jvm.ClassFile.FieldType.boolean)).before args0 about1 = true := code_word (m := ⟨2, 1⟩) (meth := k2m1) (c := k2c1) (by decide +kernel) rfl rfl rfl (by decide +kernel)
set_option maxRecDepth 65536 in
theorem w_c8 : (Jvm.Cond.code ({ cls := "java/lang/String", name := "equals", desc := "(Ljava/lang/Object;)Z" } : Jvm.MethodName) jdk_42_method_66_code (3 : Nat) (Option.some Jvm.ClassFile.FieldType.boolean)).before args0 about1 = true := code_word (m := ⟨9, 2⟩) (meth := k9m2) (c := k9c2) (by decide +kernel) rfl rfl rfl (by decide +kernel)
set_option maxRecDepth 65536 in
theorem w_c9 : (Jvm.Cond.code ({ cls := "java/lang/String", name := "<init>", desc := "([C)V" } : Jvm.MethodName) jdk_42_method_3_code (2 : Nat) (Option.none : Option Jvm.ClassFile.FieldType)).before args0 about1 = true := code_word (m := ⟨9, 1⟩) (meth := k9m1) (c := k9c1) (by decide +kernel) rfl rfl rfl (by decide +kernel)
set_option maxRecDepth 65536 in
theorem w_c10 : (Jvm.Cond.code ({ cls := "java/lang/String", name := "<init>", desc := "([CIILjava/lang/Void;)V" } : Jvm.MethodName) jdk_42_method_149_code (6 : Nat) (Option.none : Option Jvm.ClassFile.FieldType)).before args0 about1 = true := code_word (m := ⟨9, 4⟩) (meth := k9m4) (c := k9c4) (by decide +kernel) rfl rfl rfl (by decide +kernel)
set_option maxRecDepth 65536 in
theorem w_c11 : (Jvm.Cond.code ({ cls := "java/lang/StringUTF16", name := "compress", desc := "([CII)[B" } : Jvm.MethodName) jdk_52_method_16_code (6 : Nat) (Option.some (Jvm.ClassFile.FieldType.array Jvm.ClassFile.FieldType.byte))).before args0 about1 = true := code_word (m := ⟨11, 2⟩) (meth := k11m2) (c := k11c2) (by decide +kernel) rfl rfl rfl (by decide +kernel)
set_option maxRecDepth 65536 in
theorem w_c12 : (Jvm.Cond.code ({ cls := "java/lang/StringUTF16", name := "compress", desc := "([CI[BII)I" } : Jvm.MethodName) jdk_52_method_21_code (7 : Nat) (Option.some Jvm.ClassFile.FieldType.int)).before args0 about1 = true := code_word (m := ⟨11, 3⟩) (meth := k11m3) (c := k11c3) (by decide +kernel) rfl rfl rfl (by decide +kernel)
set_option maxRecDepth 65536 in
theorem w_c13 : (Jvm.Cond.code ({ cls := "java/lang/StringUTF16", name := "coderFromArrayLen", desc := "([BI)B" } : Jvm.MethodName) jdk_52_method_15_code (2 : Nat) (Option.some Jvm.ClassFile.FieldType.byte)).before args0 about1 = true := code_word (m := ⟨11, 1⟩) (meth := k11m1) (c := k11c1) (by decide +kernel) rfl rfl rfl (by decide +kernel)
set_option maxRecDepth 65536 in
theorem w_c14 : (Jvm.Cond.code ({ cls := "java/lang/String", name := "valueOf", desc := "(C)Ljava/lang/String;" } : Jvm.MethodName) jdk_42_method_139_code (1 : Nat) (Option.some (Jvm.ClassFile.FieldType.object "java/lang/String"))).before args0 about1 = true := code_word (m := ⟨9, 3⟩) (meth := k9m3) (c := k9c3) (by decide +kernel) rfl rfl rfl (by decide +kernel)
set_option maxRecDepth 65536 in
theorem w_c15 : (Jvm.Cond.code ({ cls := "java/lang/StringLatin1", name := "canEncode", desc := "(C)Z" } : Jvm.MethodName) jdk_43_method_3_code (1 : Nat) (Option.some Jvm.ClassFile.FieldType.boolean)).before args0 about1 = true := code_word (m := ⟨12, 1⟩) (meth := k12m1) (c := k12c1) (by decide +kernel) rfl rfl rfl (by decide +kernel)
set_option maxRecDepth 65536 in
theorem w_c16 : (Jvm.Cond.code ({ cls := "java/lang/StringLatin1", name := "toBytes", desc := "(C)[B" } : Jvm.MethodName) jdk_43_method_46_code (1 : Nat) (Option.some (Jvm.ClassFile.FieldType.array Jvm.ClassFile.FieldType.byte))).before args0 about1 = true := code_word (m := ⟨12, 3⟩) (meth := k12m3) (c := k12c3) (by decide +kernel) rfl rfl rfl (by decide +kernel)
set_option maxRecDepth 65536 in
theorem w_c17 : (Jvm.Cond.code ({ cls := "java/lang/String", name := "<init>", desc := "([BB)V" } : Jvm.MethodName) jdk_42_method_151_code (3 : Nat) (Option.none : Option Jvm.ClassFile.FieldType)).before args0 about1 = true := code_word (m := ⟨9, 5⟩) (meth := k9m5) (c := k9c5) (by decide +kernel) rfl rfl rfl (by decide +kernel)
set_option maxRecDepth 65536 in
theorem w_c18 : (Jvm.Cond.code ({ cls := "com/example/axis3/axis3/model/ShardEqualsPinLaw", name := "same", desc := "(II)Z" } : Jvm.MethodName) method_5_code (4 : Nat) (Option.some Jvm.ClassFile.FieldType.boolean)).before args0 about1 = true := code_word (m := ⟨1, 4⟩) (meth := k1m4) (c := k1c4) (by decide +kernel) rfl rfl rfl (by decide +kernel)
set_option maxRecDepth 65536 in
theorem w_c19 : (Jvm.Cond.code ({ cls := "java/lang/StringLatin1", name := "equals", desc := "([B[B)Z" } : Jvm.MethodName) jdk_43_method_13_code (3 : Nat) (Option.some Jvm.ClassFile.FieldType.boolean)).before args0 about1 = true := code_word (m := ⟨12, 2⟩) (meth := k12m2) (c := k12c2) (by decide +kernel) rfl rfl rfl (by decide +kernel)
def codes1 : List Jvm.Cond := [Jvm.Cond.code x code maxLocals ret, Jvm.Cond.code ({ cls := "com/example/axis3/axis3/model/ShardEqualsPinLaw", name := "str", desc := "(I)Ljava/lang/String;" } : Jvm.MethodName) method_4_code (4 : Nat) (Option.some (Jvm.ClassFile.FieldType.object "java/lang/String")), Jvm.Cond.code ({ cls := "com/example/axis3/axis3/model/ShardEqualsPinLaw", name := "len", desc := "(I)I" } : Jvm.MethodName) method_3_code (1 : Nat) (Option.some Jvm.ClassFile.FieldType.int), Jvm.Cond.code ({ cls := "java/lang/Math", name := "min", desc := "(II)I" } : Jvm.MethodName) jdk_29_method_69_code (2 : Nat) (Option.some Jvm.ClassFile.FieldType.int), Jvm.Cond.code ({ cls := "com/example/axis3/axis3/model/Shard", name := "<init>", desc := "(Ljava/lang/String;Ljava/lang/String;)V" } : Jvm.MethodName) prog_47_method_1_code (3 : Nat) (Option.none : Option Jvm.ClassFile.FieldType), Jvm.Cond.code ({ cls := "java/lang/Object", name := "<init>", desc := "()V" } : Jvm.MethodName) object_method_1_code (1 : Nat) (Option.none : Option Jvm.ClassFile.FieldType), Jvm.Cond.code ({ cls := "java/util/Objects", name := "requireNonNull", desc := "(Ljava/lang/Object;Ljava/lang/String;)Ljava/lang/Object;" } : Jvm.MethodName) jdk_31_method_11_code (2 : Nat) (Option.some (Jvm.ClassFile.FieldType.object "java/lang/Object")), Jvm.Cond.code ({ cls := "com/example/axis3/axis3/model/Shard", name := "equals", desc := "(Ljava/lang/Object;)Z" } : Jvm.MethodName) prog_47_method_4_code (2 : Nat) (Option.some Jvm.ClassFile.FieldType.boolean), Jvm.Cond.code ({ cls := "java/lang/String", name := "equals", desc := "(Ljava/lang/Object;)Z" } : Jvm.MethodName) jdk_42_method_66_code (3 : Nat) (Option.some Jvm.ClassFile.FieldType.boolean), Jvm.Cond.code ({ cls := "java/lang/String", name := "<init>", desc := "([C)V" } : Jvm.MethodName) jdk_42_method_3_code (2 : Nat) (Option.none : Option Jvm.ClassFile.FieldType), Jvm.Cond.code ({ cls := "java/lang/String", name := "<init>", desc := "([CIILjava/lang/Void;)V" } : Jvm.MethodName) jdk_42_method_149_code (6 : Nat) (Option.none : Option Jvm.ClassFile.FieldType), Jvm.Cond.code ({ cls := "java/lang/StringUTF16", name := "compress", desc := "([CII)[B" } : Jvm.MethodName) jdk_52_method_16_code (6 : Nat) (Option.some (Jvm.ClassFile.FieldType.array Jvm.ClassFile.FieldType.byte)), Jvm.Cond.code ({ cls := "java/lang/StringUTF16", name := "compress", desc := "([CI[BII)I" } : Jvm.MethodName) jdk_52_method_21_code (7 : Nat) (Option.some Jvm.ClassFile.FieldType.int), Jvm.Cond.code ({ cls := "java/lang/StringUTF16", name := "coderFromArrayLen", desc := "([BI)B" } : Jvm.MethodName) jdk_52_method_15_code (2 : Nat) (Option.some Jvm.ClassFile.FieldType.byte), Jvm.Cond.code ({ cls := "java/lang/String", name := "valueOf", desc := "(C)Ljava/lang/String;" } : Jvm.MethodName) jdk_42_method_139_code (1 : Nat) (Option.some (Jvm.ClassFile.FieldType.object "java/lang/String")), Jvm.Cond.code ({ cls := "java/lang/StringLatin1", name := "canEncode", desc := "(C)Z" } : Jvm.MethodName) jdk_43_method_3_code (1 : Nat) (Option.some Jvm.ClassFile.FieldType.boolean), Jvm.Cond.code ({ cls := "java/lang/StringLatin1", name := "toBytes", desc := "(C)[B" } : Jvm.MethodName) jdk_43_method_46_code (1 : Nat) (Option.some (Jvm.ClassFile.FieldType.array Jvm.ClassFile.FieldType.byte)), Jvm.Cond.code ({ cls := "java/lang/String", name := "<init>", desc := "([BB)V" } : Jvm.MethodName) jdk_42_method_151_code (3 : Nat) (Option.none : Option Jvm.ClassFile.FieldType), Jvm.Cond.code ({ cls := "com/example/axis3/axis3/model/ShardEqualsPinLaw", name := "same", desc := "(II)Z" } : Jvm.MethodName) method_5_code (4 : Nat) (Option.some Jvm.ClassFile.FieldType.boolean), Jvm.Cond.code ({ cls := "java/lang/StringLatin1", name := "equals", desc := "([B[B)Z" } : Jvm.MethodName) jdk_43_method_13_code (3 : Nat) (Option.some Jvm.ClassFile.FieldType.boolean)]
set_option maxRecDepth 65536 in
theorem codes_eq : words1.filter isCode = codes1 := rfl
theorem w_codes : ∀ c ∈ words1.filter isCode, c.before args0 about1 = true := by
  rw [codes_eq]
  intro c hc
  simp only [codes1, List.mem_cons, List.not_mem_nil, or_false] at hc
  rcases hc with rfl | rfl | rfl | rfl | rfl | rfl | rfl | rfl | rfl | rfl | rfl | rfl | rfl | rfl | rfl | rfl | rfl | rfl | rfl | rfl
  · exact w_c0
  · exact w_c1
  · exact w_c2
  · exact w_c3
  · exact w_c4
  · exact w_c5
  · exact w_c6
  · exact w_c7
  · exact w_c8
  · exact w_c9
  · exact w_c10
  · exact w_c11
  · exact w_c12
  · exact w_c13
  · exact w_c14
  · exact w_c15
  · exact w_c16
  · exact w_c17
  · exact w_c18
  · exact w_c19
set_option maxRecDepth 65536 in
theorem w_t1 : (words1.take 24).all (fun c => isCode c || c.before args0 about1) = true := by decide +kernel
set_option maxRecDepth 65536 in
theorem w_t2 : ((words1.drop 24).take 24).all (fun c => isCode c || c.before args0 about1) = true := by decide +kernel
set_option maxRecDepth 65536 in
theorem w_t3 : (((words1.drop 24).drop 24).take 24).all (fun c => isCode c || c.before args0 about1) = true := by decide +kernel
set_option maxRecDepth 65536 in
theorem w_t4 : ((((words1.drop 24).drop 24).drop 24).take 24).all (fun c => isCode c || c.before args0 about1) = true := by decide +kernel
set_option maxRecDepth 65536 in
theorem w_t5 : ((((words1.drop 24).drop 24).drop 24).drop 24).all (fun c => isCode c || c.before args0 about1) = true := by decide +kernel
theorem w_tables : (allAtoms (Jvm.Cond.code x code maxLocals ret :: tables_1)).before args0 about1 = true := by
  rw [allAtoms_all]
  show words1.all (fun c => c.before args0 about1) = true
  refine all_split ?_ w_codes
  rw [← List.take_append_drop 24 words1, List.all_append, w_t1, ← List.take_append_drop 24 (words1.drop 24), List.all_append, w_t2, ← List.take_append_drop 24 ((words1.drop 24).drop 24), List.all_append, w_t3, ← List.take_append_drop 24 (((words1.drop 24).drop 24).drop 24), List.all_append, w_t4, w_t5]
  rfl
set_option maxRecDepth 65536 in
theorem w_rest : rest_1_c.before args0 about1 = true := by decide +kernel
set_option maxRecDepth 65536 in
theorem w_case : (Jvm.Cond.and given_1 narrow_1).before args0 about1 = true := by decide +kernel
set_option maxRecDepth 65536 in
theorem w_consts : constsHeld consts_1 about1 := Jvm.Lit.constsHeldB_iff.mp (by decide +kernel)
theorem w_applies : (headSpec (Jvm.Cond.code x code maxLocals ret :: tables_1) room_1).applies x e0.platform about1 = true :=
  (Spec.applies_iff w_frames).mpr ⟨w_running, w_runnable, w_alone, w_named, w_hears, w_ripe, w_room, w_tables⟩
theorem atStart : AtStart classFile x code maxLocals ret World_1 tables_1 room_1 Calls_1 rest_1 Pre_1 launch0 p0 e0 about1 theMethod args0 below0 :=
  ⟨lists_1, trivial, launch0.admits_env _ _ _, launch0.least_env, fairChoices_fair.cas, fairChoices_fair.clock, w_frames, w_args, w_heap, w_applies, ⟨w_consts, trivial⟩, w_rest, w_case⟩
end start1
theorem witness_1 : WitnessClaimed_1 := ⟨start1.p0, start1.e0, start1.about1, start1.theMethod, start1.args0, start1.below0, start1.atStart⟩
end Jvm.Pilot.@@N@@
