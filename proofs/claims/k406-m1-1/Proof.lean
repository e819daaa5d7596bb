import JvmDerived
import JvmDerived.Pilot.@@N@@Statement
import JvmDerived.Pilot.@@N@@Code
set_option linter.unusedVariables false
set_option linter.unusedSimpArgs false
namespace Jvm.Pilot.@@N@@
open Jvm Jvm.ClassFile Sem Op Lib Jvm.Free Jvm.Stand Jvm.LawKit Jvm.RoadKit Bundle Jvm.Pilot.@@N@@.Jvm.D
section WK
/-! A walk's standing goal in one word: wkP says that from this frame over this heap the body ends as Q says. -/
abbrev EL : List (String × Nat) := consts_1
abbrev wkB : Type := MethodName × ByteArray × Nat × Option FieldType
/-- the cells that may be written: made since the case's start, no literal's, made by this body or handed in as such -/
def wkSf (Z : State) (vm : Vm) (h hs : Heap) (w0 ws : List Addr) : Prop := ∀ x ∈ ws, Z.heap.size ≤ x ∧ x < h.size ∧ Safe Z EL vm h x ∧ (x ∈ w0 ∨ hs.size ≤ x)
def wkAt (p : Program) (l : Launch) (e : Env) (R : Room) (s : State) (m : MethodId) (args : Array Value) (below : List Frame) (meth : Method) (c : Code) (Z : State) (B : wkB) (hs : Heap) (w0 ws : List Addr) (h : Heap) (k n : Nat) (vm0 : Vm) (k0 : Nat) (T : State) (locs : List Loc) : Prop :=
  (p.tables.exec = Jvm.exec ∧ c.code = B.2.1 ∧ c.maxLocals = B.2.2.1 ∧ meth.sig.returnType = B.2.2.2 ∧ meth.locks = false ∧ meth.name = B.1.name) ∧
  Stand p l e R (s.setVm vm0) m args below meth c T locs k n ∧ T.heap = h ∧ (s.Since vm0 k0 ∧ k0 ≤ h.size) ∧ Z.Warmed39 vm0 ∧ vm0.findClass B.1.cls = some m.cls ∧ CHr Z EL s.vm s.heap vm0 h ∧ Fr Z.heap.size locs ∧ Old Z Z.heap.size h ∧ Keep hs h w0 ∧ wkSf Z vm0 h hs w0 ws
def wkEnd (R : Room) (s Z : State) (hs : Heap) (w0 : List Addr) (Q : Option Value → Heap → List Addr → Prop) (U : State) (o : Outcome) : Prop :=
  ∃ v L, o = .returned v ∧ (∃ os, Q v U.heap os ∧ Keep hs U.heap w0 ∧ Fr Z.heap.size L ∧ Old Z Z.heap.size U.heap ∧ wkSf Z U.vm U.heap hs w0 os) ∧ CHr Z EL s.vm s.heap U.vm U.heap ∧ ReturnedEndW s o U L R.cells R.slots
def wkP (l : Launch) (Z : State) (B : wkB) (R : Room) (hs : Heap) (w0 : List Addr) (Q : Option Value → Heap → List Addr → Prop) (ws : List Addr) (h : Heap) (k n pc : Nat) (Ls : Array Slot) (st : List Value) : Prop :=
  ∀ (p : Program) (e : Env) (s : State) (m : MethodId) (args : Array Value) (below : List Frame) (meth : Method) (c : Code) (vm0 : Vm) (k0 : Nat) (T : State) (locs : List Loc), wkAt p l e R s m args below meth c Z B hs w0 ws h k n vm0 k0 T locs →
    ∃ (U : State) (o : Outcome), Steps p.tables e below (T.setTop (mkF m pc Ls st)) U ∧ U.status = .running ∧ Ended U below o ∧ wkEnd R s Z hs w0 Q U o
/-- a body's contract: with these arguments over this heap, writing at most w0 of what stood, it returns as Q says -/
def wkM (l : Launch) (Z : State) (B : wkB) (rm : Room) (as : Array Value) (h : Heap) (w0 : List Addr) (Q : Option Value → Heap → List Addr → Prop) : Prop :=
  Old Z Z.heap.size h → (∀ x ∈ w0, Z.heap.size ≤ x ∧ x < h.size) →
  MetFree l B.1 (head1 [Cond.code B.1 B.2.1 B.2.2.1 B.2.2.2] rm) (fun a U => a = as ∧ Z.Warmed39 U.vm ∧ U.heap = h ∧ CHv Z EL U.vm h ∧ ∀ x ∈ w0, Safe Z EL U.vm h x) (fun _ _ _ _ _ => True) (fun _ U o U' => wkEnd rm U Z h w0 Q U' o)
section Rules
variable {l : Launch} {Z : State} {B : wkB} {R : Room} {hs : Heap} {w0 : List Addr} {Q : Option Value → Heap → List Addr → Prop} {ws : List Addr} {h : Heap} {k n pc : Nat} {Ls : Array Slot} {st : List Value} {a0 : Array Value}
theorem wkP.pure {pc' : Nat} {Ls' : Array Slot} {st' : List Value}
    (hst : ∀ (p : Program) (e : Env) (s : State) (m : MethodId) (args : Array Value) (below : List Frame) (meth : Method) (c : Code) (vm0 : Vm) (T : State) (locs : List Loc), p.tables.exec = Jvm.exec → c.code = B.2.1 → Stand p l e R (s.setVm vm0) m args below meth c T locs k n → ∀ target, Steps p.tables e below (T.setTop (mkF m pc' Ls' st')) target → Steps p.tables e below (T.setTop (mkF m pc Ls st)) target)
    (K : wkP l Z B R hs w0 Q ws h k n pc' Ls' st') : wkP l Z B R hs w0 Q ws h k n pc Ls st := by
  intro p e s m args below meth c vm0 k0 T locs A
  obtain ⟨U, o, q, r⟩ := K p e s m args below meth c vm0 k0 T locs A
  exact ⟨U, o, hst p e s m args below meth c vm0 T locs A.1.1 A.1.2.1 A.2.1 U q, r⟩
theorem wkP.iload (pc' : Nat) {j : Nat} {v : Int32} (hd : decode B.2.1 pc = .ok (.iload j, 2)) (hl : Ls[j]? = some (.val (.int v))) (hp : pc + 2 = pc') (K : wkP l Z B R hs w0 Q ws h k n pc' Ls (.int v :: st)) : wkP l Z B R hs w0 Q ws h k n pc Ls st := by
  subst hp; exact .pure (fun p e s m args below meth c vm0 T locs hx hby X t q => XS.iload X.here hx rfl (hb hby hd) hl q) K
theorem wkP.iloadN (pc' : Nat) {j : Fin 4} {v : Int32} (hd : decode B.2.1 pc = .ok (.iload_n j, 1)) (hl : Ls[j.val]? = some (.val (.int v))) (hp : pc + 1 = pc') (K : wkP l Z B R hs w0 Q ws h k n pc' Ls (.int v :: st)) : wkP l Z B R hs w0 Q ws h k n pc Ls st := by
  subst hp; exact .pure (fun p e s m args below meth c vm0 T locs hx hby X t q => XS.iloadN X.here hx rfl (hb hby hd) hl q) K
theorem wkP.aload (pc' : Nat) {j : Nat} {v : Value} (hd : decode B.2.1 pc = .ok (.aload j, 2)) (hl : Ls[j]? = some (.val v)) (hv : v.isRef = true) (hp : pc + 2 = pc') (K : wkP l Z B R hs w0 Q ws h k n pc' Ls (v :: st)) : wkP l Z B R hs w0 Q ws h k n pc Ls st := by
  subst hp; exact .pure (fun p e s m args below meth c vm0 T locs hx hby X t q => XS.aload X.here hx rfl (hb hby hd) hl hv q) K
theorem wkP.aloadN (pc' : Nat) {j : Fin 4} {v : Value} (hd : decode B.2.1 pc = .ok (.aload_n j, 1)) (hl : Ls[j.val]? = some (.val v)) (hv : v.isRef = true) (hp : pc + 1 = pc') (K : wkP l Z B R hs w0 Q ws h k n pc' Ls (v :: st)) : wkP l Z B R hs w0 Q ws h k n pc Ls st := by
  subst hp; exact .pure (fun p e s m args below meth c vm0 T locs hx hby X t q => XS.aloadN X.here hx rfl (hb hby hd) hl hv q) K
theorem wkP.lload (pc' : Nat) {j : Nat} {v : Int64} (hd : decode B.2.1 pc = .ok (.lload j, 2)) (hl : Ls[j]? = some (.val (.long v))) (hp : pc + 2 = pc') (K : wkP l Z B R hs w0 Q ws h k n pc' Ls (.long v :: st)) : wkP l Z B R hs w0 Q ws h k n pc Ls st := by
  subst hp; exact .pure (fun p e s m args below meth c vm0 T locs hx hby X t q => XS.lload X.here hx rfl (hb hby hd) hl q) K
theorem wkP.lloadN (pc' : Nat) {j : Fin 4} {v : Int64} (hd : decode B.2.1 pc = .ok (.lload_n j, 1)) (hl : Ls[j.val]? = some (.val (.long v))) (hp : pc + 1 = pc') (K : wkP l Z B R hs w0 Q ws h k n pc' Ls (.long v :: st)) : wkP l Z B R hs w0 Q ws h k n pc Ls st := by
  subst hp; exact .pure (fun p e s m args below meth c vm0 T locs hx hby X t q => XS.lloadN X.here hx rfl (hb hby hd) hl q) K
theorem wkP.iconst (pc' : Nat) {i : Int} (v : Int32) (hd : decode B.2.1 pc = .ok (.iconst i, 1)) (hv : Int32.ofInt i = v) (hp : pc + 1 = pc') (K : wkP l Z B R hs w0 Q ws h k n pc' Ls (.int v :: st)) : wkP l Z B R hs w0 Q ws h k n pc Ls st := by
  subst hp hv; exact .pure (fun p e s m args below meth c vm0 T locs hx hby X t q => XS.iconst X.here hx rfl (hb hby hd) q) K
theorem wkP.bipush (pc' : Nat) {i : Int} (v : Int32) (hd : decode B.2.1 pc = .ok (.bipush i, 2)) (hv : (Int8.ofInt i).toInt32 = v) (hp : pc + 2 = pc') (K : wkP l Z B R hs w0 Q ws h k n pc' Ls (.int v :: st)) : wkP l Z B R hs w0 Q ws h k n pc Ls st := by
  subst hp hv; exact .pure (fun p e s m args below meth c vm0 T locs hx hby X t q => XS.bipush X.here hx rfl (hb hby hd) q) K
theorem wkP.sipush (pc' : Nat) {i : Int} (v : Int32) (hd : decode B.2.1 pc = .ok (.sipush i, 3)) (hv : (Int16.ofInt i).toInt32 = v) (hp : pc + 3 = pc') (K : wkP l Z B R hs w0 Q ws h k n pc' Ls (.int v :: st)) : wkP l Z B R hs w0 Q ws h k n pc Ls st := by
  subst hp hv; exact .pure (fun p e s m args below meth c vm0 T locs hx hby X t q => XS.sipush X.here hx rfl (hb hby hd) q) K
theorem wkP.anull (pc' : Nat) (hd : decode B.2.1 pc = .ok (.aconst_null, 1)) (hp : pc + 1 = pc') (K : wkP l Z B R hs w0 Q ws h k n pc' Ls (.null :: st)) : wkP l Z B R hs w0 Q ws h k n pc Ls st := by
  subst hp; exact .pure (fun p e s m args below meth c vm0 T locs hx hby X t q => XS.aconstNull X.here hx rfl (hb hby hd) q) K
theorem wkP.istore (pc' : Nat) {j : Nat} {x : Int32} (Ls' : Array Slot) (hd : decode B.2.1 pc = .ok (.istore j, 2)) (hl : storeLocals Ls j (.int x) = some Ls') (hp : pc + 2 = pc') (K : wkP l Z B R hs w0 Q ws h k n pc' Ls' st) : wkP l Z B R hs w0 Q ws h k n pc Ls (.int x :: st) := by
  subst hp; exact .pure (fun p e s m args below meth c vm0 T locs hx hby X t q => XS.istore X.here hx rfl (hb hby hd) rfl hl q) K
theorem wkP.istoreN (pc' : Nat) {j : Fin 4} {x : Int32} (Ls' : Array Slot) (hd : decode B.2.1 pc = .ok (.istore_n j, 1)) (hl : storeLocals Ls j.val (.int x) = some Ls') (hp : pc + 1 = pc') (K : wkP l Z B R hs w0 Q ws h k n pc' Ls' st) : wkP l Z B R hs w0 Q ws h k n pc Ls (.int x :: st) := by
  subst hp; exact .pure (fun p e s m args below meth c vm0 T locs hx hby X t q => XS.istoreN X.here hx rfl (hb hby hd) rfl hl q) K
theorem wkP.astore (pc' : Nat) {j : Nat} {x : Value} (Ls' : Array Slot) (hd : decode B.2.1 pc = .ok (.astore j, 2)) (hv : x.isRef = true) (hl : storeLocals Ls j x = some Ls') (hp : pc + 2 = pc') (K : wkP l Z B R hs w0 Q ws h k n pc' Ls' st) : wkP l Z B R hs w0 Q ws h k n pc Ls (x :: st) := by
  subst hp; exact .pure (fun p e s m args below meth c vm0 T locs hx hby X t q => XS.astore X.here hx rfl (hb hby hd) rfl hv hl q) K
theorem wkP.astoreN (pc' : Nat) {j : Fin 4} {x : Value} (Ls' : Array Slot) (hd : decode B.2.1 pc = .ok (.astore_n j, 1)) (hv : x.isRef = true) (hl : storeLocals Ls j.val x = some Ls') (hp : pc + 1 = pc') (K : wkP l Z B R hs w0 Q ws h k n pc' Ls' st) : wkP l Z B R hs w0 Q ws h k n pc Ls (x :: st) := by
  subst hp; exact .pure (fun p e s m args below meth c vm0 T locs hx hby X t q => XS.astoreN X.here hx rfl (hb hby hd) rfl hv hl q) K
theorem wkP.lstore (pc' : Nat) {j : Nat} {x : Int64} (Ls' : Array Slot) (hd : decode B.2.1 pc = .ok (.lstore j, 2)) (hl : storeLocals Ls j (.long x) = some Ls') (hp : pc + 2 = pc') (K : wkP l Z B R hs w0 Q ws h k n pc' Ls' st) : wkP l Z B R hs w0 Q ws h k n pc Ls (.long x :: st) := by
  subst hp; exact .pure (fun p e s m args below meth c vm0 T locs hx hby X t q => XS.lstore X.here hx rfl (hb hby hd) rfl hl q) K
theorem wkP.iinc (pc' : Nat) {j : Nat} {cst : Int} {x : Int32} (y : Int32) (Ls' : Array Slot) (hd : decode B.2.1 pc = .ok (.iinc j cst, 3)) (hl : Ls[j]? = some (.val (.int x))) (hy : x + Int32.ofInt cst = y) (hl' : storeLocals Ls j (.int y) = some Ls') (hp : pc + 3 = pc') (K : wkP l Z B R hs w0 Q ws h k n pc' Ls' st) : wkP l Z B R hs w0 Q ws h k n pc Ls st := by
  subst hp hy; exact .pure (fun p e s m args below meth c vm0 T locs hx hby X t q => XS.iinc X.here hx rfl (hb hby hd) hl hl' q) K
theorem wkP.dup (pc' : Nat) {x : Value} (hd : decode B.2.1 pc = .ok (.dup, 1)) (hc : x.category = 1) (hp : pc + 1 = pc') (K : wkP l Z B R hs w0 Q ws h k n pc' Ls (x :: x :: st)) : wkP l Z B R hs w0 Q ws h k n pc Ls (x :: st) := by
  subst hp; exact .pure (fun p e s m args below meth c vm0 T locs hx hby X t q => XS.dup X.here hx rfl (hb hby hd) rfl hc q) K
theorem wkP.dupX1 (pc' : Nat) {x y : Value} (hd : decode B.2.1 pc = .ok (.dup_x1, 1)) (hc : x.category = 1) (hc' : y.category = 1) (hp : pc + 1 = pc') (K : wkP l Z B R hs w0 Q ws h k n pc' Ls (x :: y :: x :: st)) : wkP l Z B R hs w0 Q ws h k n pc Ls (x :: y :: st) := by
  subst hp; exact .pure (fun p e s m args below meth c vm0 T locs hx hby X t q => XS.dupX1 X.here hx rfl (hb hby hd) rfl hc hc' q) K
theorem wkP.pop (pc' : Nat) {x : Value} (hd : decode B.2.1 pc = .ok (.pop, 1)) (hc : x.category = 1) (hp : pc + 1 = pc') (K : wkP l Z B R hs w0 Q ws h k n pc' Ls st) : wkP l Z B R hs w0 Q ws h k n pc Ls (x :: st) := by
  subst hp; exact .pure (fun p e s m args below meth c vm0 T locs hx hby X t q => XS.pop X.here hx rfl (hb hby hd) rfl hc q) K
theorem wkP.iadd (pc' : Nat) {x y : Int32} (v : Int32) (hd : decode B.2.1 pc = .ok (.iadd, 1)) (hv : x + y = v) (hp : pc + 1 = pc') (K : wkP l Z B R hs w0 Q ws h k n pc' Ls (.int v :: st)) : wkP l Z B R hs w0 Q ws h k n pc Ls (.int y :: .int x :: st) := by
  subst hp hv; exact .pure (fun p e s m args below meth c vm0 T locs hx hby X t q => XS.iadd X.here hx rfl (hb hby hd) rfl q) K
theorem wkP.isub (pc' : Nat) {x y : Int32} (v : Int32) (hd : decode B.2.1 pc = .ok (.isub, 1)) (hv : x - y = v) (hp : pc + 1 = pc') (K : wkP l Z B R hs w0 Q ws h k n pc' Ls (.int v :: st)) : wkP l Z B R hs w0 Q ws h k n pc Ls (.int y :: .int x :: st) := by
  subst hp hv; exact .pure (fun p e s m args below meth c vm0 T locs hx hby X t q => XS.isub X.here hx rfl (hb hby hd) rfl q) K
theorem wkP.imul (pc' : Nat) {x y : Int32} (v : Int32) (hd : decode B.2.1 pc = .ok (.imul, 1)) (hv : x * y = v) (hp : pc + 1 = pc') (K : wkP l Z B R hs w0 Q ws h k n pc' Ls (.int v :: st)) : wkP l Z B R hs w0 Q ws h k n pc Ls (.int y :: .int x :: st) := by
  subst hp hv; exact .pure (fun p e s m args below meth c vm0 T locs hx hby X t q => XS.imul X.here hx rfl (hb hby hd) rfl q) K
theorem wkP.idiv (pc' : Nat) {x y : Int32} (v : Int32) (hd : decode B.2.1 pc = .ok (.idiv, 1)) (hy : y ≠ 0) (hv : x / y = v) (hp : pc + 1 = pc') (K : wkP l Z B R hs w0 Q ws h k n pc' Ls (.int v :: st)) : wkP l Z B R hs w0 Q ws h k n pc Ls (.int y :: .int x :: st) := by
  subst hp hv; exact .pure (fun p e s m args below meth c vm0 T locs hx hby X t q => XS.idiv X.here hx rfl (hb hby hd) rfl hy q) K
theorem wkP.irem (pc' : Nat) {x y : Int32} (v : Int32) (hd : decode B.2.1 pc = .ok (.irem, 1)) (hy : y ≠ 0) (hv : x % y = v) (hp : pc + 1 = pc') (K : wkP l Z B R hs w0 Q ws h k n pc' Ls (.int v :: st)) : wkP l Z B R hs w0 Q ws h k n pc Ls (.int y :: .int x :: st) := by
  subst hp hv; exact .pure (fun p e s m args below meth c vm0 T locs hx hby X t q => iremM X hx rfl (hb hby hd) rfl hy q) K
theorem wkP.iand (pc' : Nat) {x y : Int32} (v : Int32) (hd : decode B.2.1 pc = .ok (.iand, 1)) (hv : x &&& y = v) (hp : pc + 1 = pc') (K : wkP l Z B R hs w0 Q ws h k n pc' Ls (.int v :: st)) : wkP l Z B R hs w0 Q ws h k n pc Ls (.int y :: .int x :: st) := by
  subst hp hv; exact .pure (fun p e s m args below meth c vm0 T locs hx hby X t q => XS.iand X.here hx rfl (hb hby hd) rfl q) K
theorem wkP.ior (pc' : Nat) {x y : Int32} (v : Int32) (hd : decode B.2.1 pc = .ok (.ior, 1)) (hv : x ||| y = v) (hp : pc + 1 = pc') (K : wkP l Z B R hs w0 Q ws h k n pc' Ls (.int v :: st)) : wkP l Z B R hs w0 Q ws h k n pc Ls (.int y :: .int x :: st) := by
  subst hp hv; exact .pure (fun p e s m args below meth c vm0 T locs hx hby X t q => XS.ior X.here hx rfl (hb hby hd) rfl q) K
theorem wkP.ishl (pc' : Nat) {x y : Int32} (v : Int32) (hd : decode B.2.1 pc = .ok (.ishl, 1)) (hv : x <<< (y &&& 31) = v) (hp : pc + 1 = pc') (K : wkP l Z B R hs w0 Q ws h k n pc' Ls (.int v :: st)) : wkP l Z B R hs w0 Q ws h k n pc Ls (.int y :: .int x :: st) := by
  subst hp hv; exact .pure (fun p e s m args below meth c vm0 T locs hx hby X t q => XS.ishl X.here hx rfl (hb hby hd) rfl q) K
theorem wkP.ishr (pc' : Nat) {x y : Int32} (v : Int32) (hd : decode B.2.1 pc = .ok (.ishr, 1)) (hv : x >>> (y &&& 31) = v) (hp : pc + 1 = pc') (K : wkP l Z B R hs w0 Q ws h k n pc' Ls (.int v :: st)) : wkP l Z B R hs w0 Q ws h k n pc Ls (.int y :: .int x :: st) := by
  subst hp hv; exact .pure (fun p e s m args below meth c vm0 T locs hx hby X t q => XS.ishr X.here hx rfl (hb hby hd) rfl q) K
theorem wkP.iushr (pc' : Nat) {x y : Int32} (v : Int32) (hd : decode B.2.1 pc = .ok (.iushr, 1)) (hv : (x.toUInt32 >>> (y &&& 31).toUInt32).toInt32 = v) (hp : pc + 1 = pc') (K : wkP l Z B R hs w0 Q ws h k n pc' Ls (.int v :: st)) : wkP l Z B R hs w0 Q ws h k n pc Ls (.int y :: .int x :: st) := by
  subst hp hv; exact .pure (fun p e s m args below meth c vm0 T locs hx hby X t q => XS.iushr X.here hx rfl (hb hby hd) rfl q) K
theorem wkP.i2b (pc' : Nat) {x : Int32} (v : Int32) (hd : decode B.2.1 pc = .ok (.i2b, 1)) (hv : x.toInt8.toInt32 = v) (hp : pc + 1 = pc') (K : wkP l Z B R hs w0 Q ws h k n pc' Ls (.int v :: st)) : wkP l Z B R hs w0 Q ws h k n pc Ls (.int x :: st) := by
  subst hp hv; exact .pure (fun p e s m args below meth c vm0 T locs hx hby X t q => XS.i2b X.here hx rfl (hb hby hd) rfl q) K
theorem wkP.i2c (pc' : Nat) {x : Int32} (v : Int32) (hd : decode B.2.1 pc = .ok (.i2c, 1)) (hv : x.toUInt32.toUInt16.toUInt32.toInt32 = v) (hp : pc + 1 = pc') (K : wkP l Z B R hs w0 Q ws h k n pc' Ls (.int v :: st)) : wkP l Z B R hs w0 Q ws h k n pc Ls (.int x :: st) := by
  subst hp hv; exact .pure (fun p e s m args below meth c vm0 T locs hx hby X t q => XS.i2c X.here hx rfl (hb hby hd) rfl q) K
theorem wkP.i2l (pc' : Nat) {x : Int32} (v : Int64) (hd : decode B.2.1 pc = .ok (.i2l, 1)) (hv : x.toInt64 = v) (hp : pc + 1 = pc') (K : wkP l Z B R hs w0 Q ws h k n pc' Ls (.long v :: st)) : wkP l Z B R hs w0 Q ws h k n pc Ls (.int x :: st) := by
  subst hp hv; exact .pure (fun p e s m args below meth c vm0 T locs hx hby X t q => XS.i2l X.here hx rfl (hb hby hd) rfl q) K
theorem wkP.l2i (pc' : Nat) {x : Int64} (v : Int32) (hd : decode B.2.1 pc = .ok (.l2i, 1)) (hv : x.toInt32 = v) (hp : pc + 1 = pc') (K : wkP l Z B R hs w0 Q ws h k n pc' Ls (.int v :: st)) : wkP l Z B R hs w0 Q ws h k n pc Ls (.long x :: st) := by
  subst hp hv; exact .pure (fun p e s m args below meth c vm0 T locs hx hby X t q => XS.l2i X.here hx rfl (hb hby hd) rfl q) K
theorem wkP.lmul (pc' : Nat) {x y : Int64} (v : Int64) (hd : decode B.2.1 pc = .ok (.lmul, 1)) (hv : x * y = v) (hp : pc + 1 = pc') (K : wkP l Z B R hs w0 Q ws h k n pc' Ls (.long v :: st)) : wkP l Z B R hs w0 Q ws h k n pc Ls (.long y :: .long x :: st) := by
  subst hp hv; exact .pure (fun p e s m args below meth c vm0 T locs hx hby X t q => XS.lmul X.here hx rfl (hb hby hd) rfl q) K
theorem wkP.land (pc' : Nat) {x y : Int64} (v : Int64) (hd : decode B.2.1 pc = .ok (.land, 1)) (hv : x &&& y = v) (hp : pc + 1 = pc') (K : wkP l Z B R hs w0 Q ws h k n pc' Ls (.long v :: st)) : wkP l Z B R hs w0 Q ws h k n pc Ls (.long y :: .long x :: st) := by
  subst hp hv; exact .pure (fun p e s m args below meth c vm0 T locs hx hby X t q => XS.land X.here hx rfl (hb hby hd) rfl q) K
theorem wkP.lushr (pc' : Nat) {x : Int64} {y : Int32} (v : Int64) (hd : decode B.2.1 pc = .ok (.lushr, 1)) (hv : (x.toUInt64 >>> (y &&& 0x3f).toInt64.toUInt64).toInt64 = v) (hp : pc + 1 = pc') (K : wkP l Z B R hs w0 Q ws h k n pc' Ls (.long v :: st)) : wkP l Z B R hs w0 Q ws h k n pc Ls (.int y :: .long x :: st) := by
  subst hp hv; exact .pure (fun p e s m args below meth c vm0 T locs hx hby X t q => XS.lushr X.here hx rfl (hb hby hd) rfl q) K
theorem wkP.goto (pc' : Nat) {o : Int} (hd : decode B.2.1 pc = .ok (.goto o, 3)) (ho : 0 ≤ (pc : Int) + o) (hp : ((pc : Int) + o).toNat = pc') (K : wkP l Z B R hs w0 Q ws h k n pc' Ls st) : wkP l Z B R hs w0 Q ws h k n pc Ls st :=
  .pure (fun p e s m args below meth c vm0 T locs hx hby X t q => XS.goto X.here hx rfl (pc0 := pc) rfl (hb hby hd) ho hp q) K
/-- what a comparison's letters mean -/
abbrev wkC : ClassFile.Cond → Int32 → Int32 → Prop
  | .eq, x, y => x = y
  | .ne, x, y => ¬ x = y
  | .lt, x, y => x < y
  | .ge, x, y => ¬ x < y
  | .gt, x, y => y < x
  | .le, x, y => ¬ y < x
theorem wkC_t {cd : ClassFile.Cond} {x y : Int32} (q : wkC cd x y) : if_icmp.holds cd x y = true := by
  cases cd
  · exact (teq q).1
  · exact (feq q).2
  · exact (tlt q).1
  · exact (flt q).2.1
  · exact (tlt q).2.2.1
  · exact (flt q).2.2.2
theorem wkC_f {cd : ClassFile.Cond} {x y : Int32} (q : ¬ wkC cd x y) : if_icmp.holds cd x y = false := by
  cases cd
  · exact (feq q).1
  · exact (teq (Decidable.not_not.mp q)).2
  · exact (flt q).1
  · exact (tlt (Decidable.not_not.mp q)).2.1
  · exact (flt q).2.2.1
  · exact (tlt (Decidable.not_not.mp q)).2.2.2
theorem wkP.icmpT (pc' : Nat) {cd : ClassFile.Cond} {x y : Int32} {o : Int} (hd : decode B.2.1 pc = .ok (.if_icmp cd o, 3)) (q : wkC cd x y) (ho : 0 ≤ (pc : Int) + o) (hp : ((pc : Int) + o).toNat = pc') (K : wkP l Z B R hs w0 Q ws h k n pc' Ls st) : wkP l Z B R hs w0 Q ws h k n pc Ls (.int y :: .int x :: st) :=
  .pure (fun p e s m args below meth c vm0 T locs hx hby X t r => XS.icmpYes X.here hx rfl (pc0 := pc) rfl (hb hby hd) rfl (wkC_t q) ho hp r) K
theorem wkP.icmpF (pc' : Nat) {cd : ClassFile.Cond} {x y : Int32} {o : Int} (hd : decode B.2.1 pc = .ok (.if_icmp cd o, 3)) (q : ¬ wkC cd x y) (hp : pc + 3 = pc') (K : wkP l Z B R hs w0 Q ws h k n pc' Ls st) : wkP l Z B R hs w0 Q ws h k n pc Ls (.int y :: .int x :: st) := by
  subst hp; exact .pure (fun p e s m args below meth c vm0 T locs hx hby X t r => XS.icmpNo X.here hx rfl (hb hby hd) rfl (wkC_f q) r) K
theorem wkP.ifT (pc' : Nat) {cd : ClassFile.Cond} {x : Int32} {o : Int} (hd : decode B.2.1 pc = .ok (.ifCond cd o, 3)) (q : wkC cd x 0) (ho : 0 ≤ (pc : Int) + o) (hp : ((pc : Int) + o).toNat = pc') (K : wkP l Z B R hs w0 Q ws h k n pc' Ls st) : wkP l Z B R hs w0 Q ws h k n pc Ls (.int x :: st) :=
  .pure (fun p e s m args below meth c vm0 T locs hx hby X t r => XS.ifYes X.here hx rfl (pc0 := pc) rfl (hb hby hd) rfl ((if0 _ _).trans (wkC_t q)) ho hp r) K
theorem wkP.ifF (pc' : Nat) {cd : ClassFile.Cond} {x : Int32} {o : Int} (hd : decode B.2.1 pc = .ok (.ifCond cd o, 3)) (q : ¬ wkC cd x 0) (hp : pc + 3 = pc') (K : wkP l Z B R hs w0 Q ws h k n pc' Ls st) : wkP l Z B R hs w0 Q ws h k n pc Ls (.int x :: st) := by
  subst hp; exact .pure (fun p e s m args below meth c vm0 T locs hx hby X t r => XS.ifNo X.here hx rfl (hb hby hd) rfl ((if0 _ _).trans (wkC_f q)) r) K
theorem wkP.ifnullT (pc' : Nat) {o : Int} (hd : decode B.2.1 pc = .ok (.ifnull o, 3)) (ho : 0 ≤ (pc : Int) + o) (hp : ((pc : Int) + o).toNat = pc') (K : wkP l Z B R hs w0 Q ws h k n pc' Ls st) : wkP l Z B R hs w0 Q ws h k n pc Ls (.null :: st) :=
  .pure (fun p e s m args below meth c vm0 T locs hx hby X t r => XS.ifnullYes X.here hx rfl (pc0 := pc) rfl (hb hby hd) rfl ho hp r) K
theorem wkP.ifnullF (pc' : Nat) {o : Int} {a : Addr} (hd : decode B.2.1 pc = .ok (.ifnull o, 3)) (hp : pc + 3 = pc') (K : wkP l Z B R hs w0 Q ws h k n pc' Ls st) : wkP l Z B R hs w0 Q ws h k n pc Ls (.ref a :: st) := by
  subst hp; exact .pure (fun p e s m args below meth c vm0 T locs hx hby X t r => XS.ifnullNo X.here hx rfl (hb hby hd) rfl r) K
theorem wkP.ifnonnullT (pc' : Nat) {o : Int} {a : Addr} (hd : decode B.2.1 pc = .ok (.ifnonnull o, 3)) (ho : 0 ≤ (pc : Int) + o) (hp : ((pc : Int) + o).toNat = pc') (K : wkP l Z B R hs w0 Q ws h k n pc' Ls st) : wkP l Z B R hs w0 Q ws h k n pc Ls (.ref a :: st) :=
  .pure (fun p e s m args below meth c vm0 T locs hx hby X t r => XS.ifnonnullYes X.here hx rfl (pc0 := pc) rfl (hb hby hd) rfl ho hp r) K
theorem wkP.ifnonnullF (pc' : Nat) {o : Int} (hd : decode B.2.1 pc = .ok (.ifnonnull o, 3)) (hp : pc + 3 = pc') (K : wkP l Z B R hs w0 Q ws h k n pc' Ls st) : wkP l Z B R hs w0 Q ws h k n pc Ls (.null :: st) := by
  subst hp; exact .pure (fun p e s m args below meth c vm0 T locs hx hby X t r => XS.ifnonnullNo X.here hx rfl (hb hby hd) rfl r) K
theorem wkP.acmp (pc' : Nat) {cd : ACond} {x y : Value} {o : Int} (same : Bool) (hd : decode B.2.1 pc = .ok (.if_acmp cd o, 3)) (h1 : x.isRef = true) (h2 : y.isRef = true) (hq : decide (x = y) = same) (ho : 0 ≤ (pc : Int) + o) (hp : pc' = if acV cd same = true then ((pc : Int) + o).toNat else pc + 3) (K : wkP l Z B R hs w0 Q ws h k n pc' Ls st) : wkP l Z B R hs w0 Q ws h k n pc Ls (y :: x :: st) :=
  .pure (fun p e s m args below meth c vm0 T locs hx hby X t r => RoadKit.acmp X hx rfl h1 h2 (pc0 := pc) rfl (hb hby hd) rfl hq ho hp r) K
end Rules

section Facts
variable {Z : State} {h h' : Heap} {a b : Addr} {ty ty' : FieldType} {xs : List Int32} {ws : List Addr} {a0 : Array Value} {C D O n d : String} {v w : Value}
theorem nn0 {x : Nat} : x ∉ ([] : List Nat) := by simp
theorem nn1 {x y : Nat} (q : x ≠ y) : x ∉ [y] := by simpa using q
theorem nnS {x y : Nat} {L : List Nat} (q : x ≠ y) (r : x ∉ L) : x ∉ y :: L := by simpa using ⟨q, r⟩
/-- the array at a holds just these ints -/
def Ia (Z : State) (h : Heap) (a : Addr) (ty : FieldType) (xs : List Int32) : Prop := ∃ c : Cell, Arr Z h a c ty ∧ c.slots = (xs.map Value.int).toArray ∧ (∀ x ∈ xs, fits ty (.int x) = true) ∧ xs.length < 2 ^ 31
theorem exaLt (E : Exa Z h a C) : h.size > a := E.lt
theorem Ia.lt (F : Ia Z h a ty xs) : h.size > a := by obtain ⟨c, A, -⟩ := F; exact A.lt
theorem Ia.keep (F : Ia Z h a ty xs) (K : Keep h h' ws) (q : a ∉ ws) : Ia Z h' a ty xs := by
  obtain ⟨c, A, r⟩ := F; exact ⟨c, ⟨K.2.1 _ _ A.1 q, A.2⟩, r⟩
theorem Ia.len (F : Ia Z h a ty xs) : xs.length < 2 ^ 31 := by obtain ⟨c, -, -, -, r⟩ := F; exact r
theorem Ia.fit (F : Ia Z h a ty xs) : ∀ x ∈ xs, fits ty (.int x) = true := by obtain ⟨c, -, -, r, -⟩ := F; exact r
theorem Ia.of_arv {k : ClassId} {z : Int32} {vs : List Value} (F : Arv Z h a k ty z vs v) (e : vs = xs.map Value.int) (hl : z.toNatClampNeg = vs.length) : Ia Z h a ty xs := by
  obtain ⟨c, A, -, hs, hz, H, G⟩ := F
  subst e
  have hsz : c.slots.size = xs.length := by rw [hs, hl]; simp
  have hb := (back32 hz).2
  refine ⟨c, A, ?_, fun x hx => ?_, by rw [← hsz, hs]; exact hb⟩
  · refine Array.ext (by simpa using hsz) fun i h1 h2 => ?_
    have q := H i h1
    rw [Array.getElem?_eq_getElem h1] at q
    have h3 : i < xs.length := by omega
    simp [List.getD_eq_getElem?_getD, h3] at q ⊢
    exact q
  · obtain ⟨i, hi, rfl⟩ := List.getElem_of_mem hx
    have q := G i (by omega)
    simpa [List.getD_eq_getElem?_getD, hi] using q
theorem Ia.arv (F : Ia Z h a ty xs) : ∃ k, Arv Z h a k ty (Int32.ofNat xs.length) (xs.map Value.int) (.int 0) := by
  obtain ⟨c, A, e, f, r⟩ := F
  have q : (Int32.ofNat xs.length).toNatClampNeg = xs.length := clamp_of rfl r
  have sz : c.slots.size = xs.length := by rw [e]; simp
  refine ⟨c.cls, c, A, rfl, by rw [q, sz], ?_, fun i hi => ?_, fun i hi => ?_⟩
  · have := toInt_of (n := Int32.ofNat xs.length) rfl r
    rw [Int32.lt_iff_toInt_lt, this]; simp
  · rw [e]; simp [List.getD_eq_getElem?_getD, show i < xs.length by omega]
  · have h3 : i < xs.length := by omega
    simpa [List.getD_eq_getElem?_getD, h3] using f _ (List.getElem_mem h3)
theorem Ia.ne (F : Ia Z h a ty xs) {ys : List Int32} (G : Ia Z h b ty' ys) (q : ty ≠ ty') : a ≠ b := fun e => by
  subst e
  obtain ⟨c, A, -⟩ := F
  obtain ⟨c', A', -⟩ := G
  cases A.1.symm.trans A'.1
  obtain ⟨-, k1, q1, c1, r1⟩ := A.2.1
  obtain ⟨-, k2, q2, c2, r2⟩ := A'.2.1
  cases q1.symm.trans q2
  rw [r1] at r2
  injection r2 with _ r3
  exact q r3
theorem exaNeIa {kk : Nat} (E : Exa Z h a C) (wi : (Cond.instantiable C kk).before a0 Z = true) (G : Ia Z h b ty xs) : a ≠ b := by
  obtain ⟨c, A, -⟩ := G
  exact ne_arr E wi A
end Facts
section Rules2
variable {l : Launch} {Z : State} {B : wkB} {R : Room} {hs : Heap} {w0 : List Addr} {Q : Option Value → Heap → List Addr → Prop} {ws : List Addr} {h : Heap} {k n pc : Nat} {Ls : Array Slot} {st : List Value} {a0 : Array Value}
variable {p : Program} {e : Env} {s : State} {m : MethodId} {args : Array Value} {below : List Frame} {meth : Method} {c : Code} {vm0 : Vm} {k0 : Nat} {T T' : State} {locs : List Loc} {h' : Heap} {k' n' : Nat} {a : Addr} {sl : Nat} {v : Value}
theorem keepExt {hh h1 : Heap} (E : Ext hh h1) : Keep hh h1 [] := (Keep.refl _ _).ext E
theorem wkAt.same (A : wkAt p l e R s m args below meth c Z B hs w0 ws h k n vm0 k0 T locs) (X' : Stand p l e R (s.setVm vm0) m args below meth c T' locs k n) (e' : T'.heap = h) : wkAt p l e R s m args below meth c Z B hs w0 ws h k n vm0 k0 T' locs :=
  ⟨A.1, X', e', A.2.2.2⟩
theorem wkAt.ext (A : wkAt p l e R s m args below meth c Z B hs w0 ws h k n vm0 k0 T locs) (X' : Stand p l e R (s.setVm vm0) m args below meth c T' locs k' n') (e' : T'.heap = h') (E : Ext h h') : wkAt p l e R s m args below meth c Z B hs w0 ws h' k' n' vm0 k0 T' locs := by
  obtain ⟨a1, -, -, ⟨a4, a5⟩, a6, a7, a8, a9, a10, a11, a12⟩ := A
  exact ⟨a1, X', e', ⟨a4, Nat.le_trans a5 E.1⟩, a6, a7, a8.trans (CHr.ext E a8.1), a9, a10.ext E, a11.ext E, fun x hx => ⟨(a12 x hx).1, Nat.lt_of_lt_of_le (a12 x hx).2.1 E.1, Safe.ext E a8.1 (a12 x hx).2.2.1, (a12 x hx).2.2.2⟩⟩
theorem wkAt.push (A : wkAt p l e R s m args below meth c Z B hs w0 ws h k n vm0 k0 T locs) (X' : Stand p l e R (s.setVm vm0) m args below meth c T' locs k' n') (e' : T'.heap = h') (E : Ext h h') (ha : h.size ≤ a) (hb : a < h'.size) : wkAt p l e R s m args below meth c Z B hs w0 (a :: ws) h' k' n' vm0 k0 T' locs := by
  have q := A.ext X' e' E
  obtain ⟨a1, -, -, ⟨a4, a5⟩, a6, a7, a8, a9, a10, a11, a12⟩ := A
  obtain ⟨b1, b2, b3, b4, b5, b6, b7, b8, b9, b10, b11⟩ := q
  refine ⟨b1, b2, b3, b4, b5, b6, b7, b8, b9, b10, fun x hx => ?_⟩
  rcases List.mem_cons.mp hx with rfl | hx
  · exact ⟨Nat.le_trans a10.2.1 ha, hb, Safe.ext E a8.1 (Safe.new ha), Or.inr (Nat.le_trans a11.1 ha)⟩
  · exact b11 x hx
theorem wkAt.wr (A : wkAt p l e R s m args below meth c Z B hs w0 ws h k n vm0 k0 T locs) (X' : Stand p l e R (s.setVm vm0) m args below meth c T' (locs ++ [⟨a, sl⟩]) k n) (e' : T'.heap = h') (W : Wr h h' a sl v) (ha : a ∈ ws) : wkAt p l e R s m args below meth c Z B hs w0 ws h' k n vm0 k0 T' (locs ++ [⟨a, sl⟩]) := by
  obtain ⟨a1, -, -, ⟨a4, a5⟩, a6, a7, a8, a9, a10, a11, a12⟩ := A
  obtain ⟨s1, s2, s3, s4⟩ := a12 a ha
  have hsz := W.size
  exact ⟨a1, X', e', ⟨a4, by rw [hsz]; exact a5⟩, a6, a7, a8.trans (CHr.wr W s3 a8.1), Fr.app a9 (fun y hy => by simp at hy; rw [hy]; exact s1), a10.wr W s1, a11.wr W s4, fun x hx => ⟨(a12 x hx).1, by rw [hsz]; exact (a12 x hx).2.1, Safe.wr W s3 a8.1 (a12 x hx).2.2.1, (a12 x hx).2.2.2⟩⟩
theorem wkP.more {k1 n1 : Nat} (hk : k ≤ k1) (hn : n ≤ n1) (K : wkP l Z B R hs w0 Q ws h k1 n1 pc Ls st) : wkP l Z B R hs w0 Q ws h k n pc Ls st := by
  intro p e s m args below meth c vm0 k0 T locs A
  exact K p e s m args below meth c vm0 k0 T locs ⟨A.1, A.2.1.more hk hn, A.2.2⟩
theorem wkP.sub {ws1 : List Addr} (q : ∀ x ∈ ws1, x ∈ ws) (K : wkP l Z B R hs w0 Q ws1 h k n pc Ls st) : wkP l Z B R hs w0 Q ws h k n pc Ls st := by
  intro p e s m args below meth c vm0 k0 T locs A
  obtain ⟨b1, b2, b3, b4, b5, b6, b7, b8, b9, b10, b11⟩ := A
  exact K p e s m args below meth c vm0 k0 T locs ⟨b1, b2, b3, b4, b5, b6, b7, b8, b9, b10, fun x hx => b11 x (q x hx)⟩
/-- what is known wherever a walk stands -/
theorem wkP.know (K : (∀ x ∈ ws, Z.heap.size ≤ x ∧ x < h.size) → Z.heap.size ≤ h.size → Keep hs h w0 → wkP l Z B R hs w0 Q ws h k n pc Ls st) : wkP l Z B R hs w0 Q ws h k n pc Ls st := by
  intro p e s m args below meth c vm0 k0 T locs A
  obtain ⟨b1, b2, b3, b4, b5, b6, b7, b8, b9, b10, b11⟩ := A
  exact K (fun x hx => ⟨(b11 x hx).1, (b11 x hx).2.1⟩) b9.2.1 b10 p e s m args below meth c vm0 k0 T locs ⟨b1, b2, b3, b4, b5, b6, b7, b8, b9, b10, b11⟩
theorem wkP.getF (pc' : Nat) {index : Nat} {R0 O nm d : String} (w : (Cond.fieldLink B.1.cls index R0 nm d).before a0 Z = true) (F : Fld Z h a O nm d v) (via : Via Z R0 O nm d) (hd : decode B.2.1 pc = .ok (.getfield index, 3)) (hp : pc + 3 = pc') (K : wkP l Z B R hs w0 Q ws h k n pc' Ls (v :: st)) : wkP l Z B R hs w0 Q ws h k n pc Ls (.ref a :: st) := by
  subst hp
  intro p e s m args below meth c vm0 k0 T locs A
  obtain ⟨T', X', e', stp⟩ := RoadKit.getF A.2.1 A.1.1 A.2.2.2.2.1 A.2.2.2.2.2.1 (host := "") (Or.inl w) via A.2.2.1 F (g := mkF m pc Ls (.ref a :: st)) rfl rfl (hb A.1.2.1 hd)
  obtain ⟨U, o, q, r⟩ := K p e s m args below meth c vm0 k0 T' locs (A.same X' e')
  exact ⟨U, o, stp _ q, r⟩
theorem wkP.getS (pc' : Nat) {index : Nat} {R0 O nm d : String} (w : (Cond.fieldLink B.1.cls index R0 nm d).before a0 Z = true) (F : Sta Z Z.heap O nm d v) (via : Via Z R0 O nm d) (hd : decode B.2.1 pc = .ok (.getstatic index, 3)) (hp : pc + 3 = pc') (K : wkP l Z B R hs w0 Q ws h k n pc' Ls (v :: st)) : wkP l Z B R hs w0 Q ws h k n pc Ls st := by
  subst hp
  intro p e s m args below meth c vm0 k0 T locs A
  obtain ⟨T', X', e', stp⟩ := RoadKit.getS A.2.1 A.1.1 A.2.2.2.2.1 A.2.2.2.2.2.1 (host := "") w via A.2.2.1 (F.ext A.2.2.2.2.2.2.2.2.1.2) (g := mkF m pc Ls st) rfl (hb A.1.2.1 hd)
  obtain ⟨U, o, q, r⟩ := K p e s m args below meth c vm0 k0 T' locs (A.same X' e')
  exact ⟨U, o, stp _ q, r⟩
theorem wkP.castY (pc' : Nat) {index : Nat} {C : String} (w : (Cond.classLink B.1.cls index C).before a0 Z = true) (F : Ins Z h a C true) (hd : decode B.2.1 pc = .ok (.checkcast index, 3)) (hp : pc + 3 = pc') (K : wkP l Z B R hs w0 Q ws h k n pc' Ls (.ref a :: st)) : wkP l Z B R hs w0 Q ws h k n pc Ls (.ref a :: st) := by
  subst hp
  intro p e s m args below meth c vm0 k0 T locs A
  obtain ⟨T', X', e', stp⟩ := RoadKit.castY A.2.1 A.1.1 A.2.2.2.2.1 A.2.2.2.2.2.1 w A.2.2.1 F (g := mkF m pc Ls (.ref a :: st)) rfl rfl (hb A.1.2.1 hd)
  obtain ⟨U, o, q, r⟩ := K p e s m args below meth c vm0 k0 T' locs (A.same X' e')
  exact ⟨U, o, stp _ q, r⟩
theorem wkP.instY (pc' : Nat) {index : Nat} {C : String} (w : (Cond.classLink B.1.cls index C).before a0 Z = true) (F : Ins Z h a C true) (hd : decode B.2.1 pc = .ok (.instanceof index, 3)) (hp : pc + 3 = pc') (K : wkP l Z B R hs w0 Q ws h k n pc' Ls (.int 1 :: st)) : wkP l Z B R hs w0 Q ws h k n pc Ls (.ref a :: st) := by
  subst hp
  intro p e s m args below meth c vm0 k0 T locs A
  obtain ⟨T', X', e', stp⟩ := RoadKit.instY A.2.1 A.1.1 A.2.2.2.2.1 A.2.2.2.2.2.1 w A.2.2.1 F (g := mkF m pc Ls (.ref a :: st)) rfl rfl (hb A.1.2.1 hd)
  obtain ⟨U, o, q, r⟩ := K p e s m args below meth c vm0 k0 T' locs (A.same X' e')
  exact ⟨U, o, stp _ q, r⟩
theorem wkP.ldcI (pc' : Nat) {index : Nat} {v : Int32} (w : (Cond.constant B.1.cls index v).before a0 Z = true) (hd : decode B.2.1 pc = .ok (.ldc index, 2)) (hp : pc + 2 = pc') (K : wkP l Z B R hs w0 Q ws h k n pc' Ls (.int v :: st)) : wkP l Z B R hs w0 Q ws h k n pc Ls st := by
  subst hp
  intro p e s m args below meth c vm0 k0 T locs A
  obtain ⟨U, o, q, r⟩ := K p e s m args below meth c vm0 k0 T locs A
  exact ⟨U, o, A.2.1.ldcInt A.1.1 (own := B.1.cls) A.2.2.2.2.2.1 (mvT (s := s.setVm vm0) A.2.2.2.2.1 w) (g := mkF m pc Ls st) rfl (hb A.1.2.1 hd) _ q, r⟩
theorem wkP.ldcL (pc' : Nat) {index : Nat} {v : Int64} (w : (Cond.constantLong B.1.cls index v).before a0 Z = true) (hd : decode B.2.1 pc = .ok (.ldc2_w index, 3)) (hp : pc + 3 = pc') (K : wkP l Z B R hs w0 Q ws h k n pc' Ls (.long v :: st)) : wkP l Z B R hs w0 Q ws h k n pc Ls st := by
  subst hp
  intro p e s m args below meth c vm0 k0 T locs A
  obtain ⟨U, o, q, r⟩ := K p e s m args below meth c vm0 k0 T locs A
  exact ⟨U, o, A.2.1.ldc2Long A.1.1 (own := B.1.cls) A.2.2.2.2.2.1 (mvT (s := s.setVm vm0) A.2.2.2.2.1 w) (g := mkF m pc Ls st) rfl (hb A.1.2.1 hd) _ q, r⟩
theorem wkP.instNull (pc' : Nat) {index : Nat} (hd : decode B.2.1 pc = .ok (.instanceof index, 3)) (hp : pc + 3 = pc') (K : wkP l Z B R hs w0 Q ws h k n pc' Ls (.int 0 :: st)) : wkP l Z B R hs w0 Q ws h k n pc Ls (.null :: st) := by
  subst hp; exact .pure (fun p e s m args below meth c vm0 T locs hx hby X t q => X.instanceofNull hx (g := mkF m pc Ls (.null :: st)) rfl rfl (hb hby hd) t q) K
theorem wkP.instNo (pc' : Nat) {index : Nat} {C D : String} (w : (Cond.classLink B.1.cls index C).before a0 Z = true) (E : Exa Z h a D) (F : ∃ c t, Z.vm.findClass D = some c ∧ Z.vm.findClass C = some t ∧ Z.vm.assignable c t = false) (hd : decode B.2.1 pc = .ok (.instanceof index, 3)) (hp : pc + 3 = pc') (K : wkP l Z B R hs w0 Q ws h k n pc' Ls (.int 0 :: st)) : wkP l Z B R hs w0 Q ws h k n pc Ls (.ref a :: st) := by
  subst hp
  intro p e s m args below meth c vm0 k0 T locs A
  obtain ⟨T', X', e', stp⟩ := RoadKit.instNo A.2.1 A.1.1 A.2.2.2.2.1 A.2.2.2.2.2.1 w A.2.2.1 E F (g := mkF m pc Ls (.ref a :: st)) rfl rfl (hb A.1.2.1 hd)
  obtain ⟨U, o, q, r⟩ := K p e s m args below meth c vm0 k0 T' locs (A.same X' e')
  exact ⟨U, o, stp _ q, r⟩
/-- String's one superclass is Object: it is no class that is neither -/
theorem notOf {K : String} {kk : Nat} (w1 : (Cond.superclass "java/lang/String" "java/lang/Object").before a0 Z = true) (w2 : (Cond.noSuperclass "java/lang/Object").before a0 Z = true) (w3 : (Cond.instantiable K kk).before a0 Z = true) (n1 : "java/lang/String" ≠ K) (n2 : "java/lang/Object" ≠ K) : ∃ c t, Z.vm.findClass "java/lang/String" = some c ∧ Z.vm.findClass K = some t ∧ Z.vm.assignable c t = false := by
  obtain ⟨t, kt, g0, g2, g3, g4, -⟩ := Cond.instantiable_spec w3
  obtain ⟨c, h0⟩ := found_sup w1
  obtain ⟨p, k, kp, h1, h2, h3, h4, h5, -, h7⟩ := Cond.superclass_spec h0 w1
  obtain ⟨q, kq, q1, q2, q3, -, -⟩ := Cond.noSuperclass_spec w2
  have e1 := h1.symm.trans q1
  cases e1
  have ne1 := ids_ne h0 g0 n1
  have ne2 := ids_ne h1 g0 n2
  have hi : kt.isInterface = false := by
    cases hq : kt.isInterface
    · rfl
    · rw [hq] at g4; simp at g4
  have ns : ∀ fuel, Z.vm.isSubclassAux fuel c t = false := fun fuel => by
    cases fuel with
    | zero => rfl
    | succ f =>
      cases f with
      | zero => simp [Vm.isSubclassAux, ne1, h2, h4]
      | succ f => simp [Vm.isSubclassAux, ne1, ne2, h2, h4, q2, q3]
  refine ⟨c, t, h0, g0, ?_⟩
  show Z.vm.assignableAux (255 + 1) c t = false
  simp [Vm.assignableAux, ne1, h2, g2, h5, g3, hi, Vm.isSubclass, ns]
theorem wkP.newO (pc' : Nat) {index nn : Nat} {C : String} (w : (Cond.classLink B.1.cls index C).before a0 Z = true) (wi : (Cond.instantiable C nn).before a0 Z = true) (wz : (Cond.initialized C).before a0 Z = true) (hd : decode B.2.1 pc = .ok (.new index, 3)) (hc : k + 1 ≤ R.cells) (hl : n + nn ≤ R.slots) (hp : pc + 3 = pc')
    (K : ∀ (h' : Heap) (a : Addr), h.size ≤ a → h'.size > a → Keep h h' [] → Exa Z h' a C → (∀ {O nm d : String} {ty : FieldType}, Laid Z a0 C O nm d → parseFieldDescriptor d = some ty → Fld Z h' a O nm d (defaultValue ty)) → Unt h' a → wkP l Z B R hs w0 Q (a :: ws) h' (k + 1) (n + nn) pc' Ls (.ref a :: st)) : wkP l Z B R hs w0 Q ws h k n pc Ls st := by
  subst hp
  intro p e s m args below meth c vm0 k0 T locs A
  obtain ⟨T', h', X', e', E', A', D', N', stp⟩ := RoadKit.newO A.2.1 A.1.1 A.2.2.2.2.1 A.2.2.2.2.2.1 w wi wz A.2.2.1 (g := mkF m pc Ls st) rfl (hb A.1.2.1 hd) hc hl
  obtain ⟨U, o, q, r⟩ := K h' h.size (Nat.le_refl _) A'.lt (keepExt E') A' (fun L q => D' L q) N' p e s m args below meth c vm0 k0 T' locs (A.push X' e' E' (Nat.le_refl _) A'.lt)
  exact ⟨U, o, stp _ q, r⟩
theorem nat_of_toInt {z : Int32} {N : Nat} (hz : z.toInt = (N : Int)) : ¬ z < 0 ∧ z.toNatClampNeg = N := by
  constructor
  · rw [Int32.lt_iff_toInt_lt, hz]; simp
  · simp [Int32.toNatClampNeg, hz]
theorem wkP.newP (pc' : Nat) {aty : ArrayType} (ty : FieldType) (N cap : Nat) {z : Int32} (w : (Cond.arrayClass ty).before a0 Z = true) (hty : newarray.typeOf aty = ty) (hdv : defaultValue ty = .int 0) (hf : fits ty (.int 0) = true) (hd : decode B.2.1 pc = .ok (.newarray aty, 2)) (hz : z.toInt = (N : Int)) (hcap : N ≤ cap) (hb8 : cap * 8 ≤ 536870912) (hc : k + 1 ≤ R.cells) (hl : n + cap ≤ R.slots) (hp : pc + 2 = pc')
    (K : ∀ (h' : Heap) (a : Addr), h.size ≤ a → h'.size > a → Keep h h' [] → Ia Z h' a ty (List.replicate N 0) → wkP l Z B R hs w0 Q (a :: ws) h' (k + 1) (n + cap) pc' Ls (.ref a :: st)) : wkP l Z B R hs w0 Q ws h k n pc Ls (.int z :: st) := by
  subst hp hty
  obtain ⟨z1, z2⟩ := nat_of_toInt hz
  intro p e s m args below meth c vm0 k0 T locs A
  obtain ⟨T', h', cA, X', e', E', A', stp⟩ := RoadKit.newP A.2.1 A.1.1 A.2.2.2.2.1 w A.2.2.1 (g := mkF m pc Ls (.int z :: st)) rfl (hb A.1.2.1 hd) rfl z1 (cap := cap) (by omega) hb8 hc hl
  have F : Ia Z h' h.size (newarray.typeOf aty) (List.replicate N 0) := ⟨_, A', by simp [newA, z2, hdv], fun x hx => by rw [List.eq_of_mem_replicate hx]; exact hf, by simp; omega⟩
  obtain ⟨U, o, q, r⟩ := K h' h.size (Nat.le_refl _) A'.lt (keepExt E') F p e s m args below meth c vm0 k0 T' locs (A.push X' e' E' (Nat.le_refl _) A'.lt)
  exact ⟨U, o, stp _ q, r⟩
theorem wkP.putF (pc' : Nat) {index kk : Nat} {O nm d C : String} {ty : FieldType} {old : Value} (w : (Cond.fieldLink B.1.cls index O nm d).before a0 Z = true) (F : Fld Z h a O nm d old) (E : Exa Z h a C) (L : (Cond.lays C O nm d).before a0 Z = true ∨ ((Cond.laysFinal C O nm d).before a0 Z = true ∧ B.1.cls = O ∧ B.1.name = "<init>")) (wi : (Cond.instantiable C kk).before a0 Z = true)
    (hty : parseFieldDescriptor d = some ty) (hn : narrow ty v = v) (hf : fits ty v = true) (hd : decode B.2.1 pc = .ok (.putfield index, 3)) (ha : a ∈ ws) (hp : pc + 3 = pc')
    (K : ∀ h' : Heap, Keep h h' [a] → Wr h h' a (RoadKit.slotOf Z O nm d) v → wkP l Z B R hs w0 Q ws h' k n pc' Ls st) : wkP l Z B R hs w0 Q ws h k n pc Ls (v :: .ref a :: st) := by
  subst hp
  intro p e s m args below meth c vm0 k0 T locs A
  obtain ⟨T', h', X', e', W', stp⟩ := RoadKit.putF A.2.1 A.1.1 A.2.2.2.2.1 A.2.2.2.2.2.1 (host := "") (Or.inl w) Via.refl A.2.2.1 F E (L.imp id fun q => ⟨q.1, q.2.1, A.1.2.2.2.2.2.trans q.2.2⟩) wi hty hn hf (g := mkF m pc Ls (v :: .ref a :: st)) rfl rfl (hb A.1.2.1 hd)
  obtain ⟨U, o, q, r⟩ := K h' (Keep.of_wr W') W' p e s m args below meth c vm0 k0 T' _ (A.wr X' e' W' ha)
  exact ⟨U, o, stp _ q, r⟩
theorem Ia.set {xs : List Int32} {ty : FieldType} {i : Nat} {x : Int32} (F : Ia Z h a ty xs) (W : Wr h h' a i (.int x)) (hx : fits ty (.int x) = true) : Ia Z h' a ty (xs.set i x) := by
  obtain ⟨c, A, e1, f, r⟩ := F
  refine ⟨_, A.same W, by simp [Cell.setSlot, e1], fun y hy => ?_, by simpa using r⟩
  rcases List.mem_or_eq_of_mem_set hy with q | q
  · exact f y q
  · rw [q]; exact hx
theorem in_of {xs : List Int32} {c : Cell} {j : Int32} {i : Nat} (e1 : c.slots = (xs.map Value.int).toArray) (hj : j.toInt = (i : Int)) (hi : i < xs.length) : ¬ (j < 0 ∨ c.slots.size ≤ j.toNatClampNeg) := by
  obtain ⟨z1, z2⟩ := nat_of_toInt hj
  rw [e1, z2]; simp [z1]; omega
theorem wkP.stC (pc' i : Nat) {xs : List Int32} {j x : Int32} (x' : Int32) (F : Ia Z h a .char xs) (hd : decode B.2.1 pc = .ok (.castore, 1)) (hj : j.toInt = (i : Int)) (hi : i < xs.length) (hx' : nar .char x = x') (ha : a ∈ ws) (hp : pc + 1 = pc')
    (K : ∀ h' : Heap, Keep h h' [a] → Ia Z h' a .char (xs.set i x') → wkP l Z B R hs w0 Q ws h' k n pc' Ls st) : wkP l Z B R hs w0 Q ws h k n pc Ls (.int x :: .int j :: .ref a :: st) := by
  subst hp hx'
  intro p e s m args below meth c vm0 k0 T locs A
  have F0 := F
  obtain ⟨cl, Ar, e1, f, r⟩ := F
  obtain ⟨T', h', X', e', W', stp⟩ := RoadKit.stC A.2.1 A.1.1 A.2.2.2.2.1 A.2.2.1 Ar (j := j) (in_of e1 hj hi) (g := mkF m pc Ls (.int x :: .int j :: .ref a :: st)) rfl rfl (hb A.1.2.1 hd)
  rw [(nat_of_toInt hj).2] at W' X'
  obtain ⟨U, o, q, r⟩ := K h' (Keep.of_wr W') (F0.set W' (fits_nar_char x)) p e s m args below meth c vm0 k0 T' _ (A.wr X' e' W' ha)
  exact ⟨U, o, stp _ q, r⟩
theorem wkP.stB (pc' i : Nat) {xs : List Int32} {j x : Int32} (x' : Int32) (F : Ia Z h a .byte xs) (hd : decode B.2.1 pc = .ok (.bastore, 1)) (hj : j.toInt = (i : Int)) (hi : i < xs.length) (hx' : nar .byte x = x') (ha : a ∈ ws) (hp : pc + 1 = pc')
    (K : ∀ h' : Heap, Keep h h' [a] → Ia Z h' a .byte (xs.set i x') → wkP l Z B R hs w0 Q ws h' k n pc' Ls st) : wkP l Z B R hs w0 Q ws h k n pc Ls (.int x :: .int j :: .ref a :: st) := by
  subst hp hx'
  intro p e s m args below meth c vm0 k0 T locs A
  have F0 := F
  obtain ⟨cl, Ar, e1, f, r⟩ := F
  obtain ⟨T', h', X', e', W', stp⟩ := RoadKit.stB A.2.1 A.1.1 A.2.2.2.2.1 A.2.2.1 Ar (j := j) (in_of e1 hj hi) (g := mkF m pc Ls (.int x :: .int j :: .ref a :: st)) rfl rfl (hb A.1.2.1 hd)
  rw [(nat_of_toInt hj).2] at W' X'
  obtain ⟨U, o, q, r⟩ := K h' (Keep.of_wr W') (F0.set W' (fits_nar_byte x)) p e s m args below meth c vm0 k0 T' _ (A.wr X' e' W' ha)
  exact ⟨U, o, stp _ q, r⟩
theorem Ia.at {xs : List Int32} {c : Cell} {i : Nat} {x j : Int32} (e1 : c.slots = (xs.map Value.int).toArray) (hj : j.toInt = (i : Int)) (hx : xs[i]? = some x) : c.slots[j.toNatClampNeg]? = some (.int x) := by
  rw [(nat_of_toInt hj).2, e1]; simp [hx]
theorem wkP.caload (pc' i : Nat) {xs : List Int32} {j : Int32} (x : Int32) (F : Ia Z h a .char xs) (hd : decode B.2.1 pc = .ok (.caload, 1)) (hj : j.toInt = (i : Int)) (hx : xs[i]? = some x) (hp : pc + 1 = pc') (K : wkP l Z B R hs w0 Q ws h k n pc' Ls (.int x :: st)) : wkP l Z B R hs w0 Q ws h k n pc Ls (.int j :: .ref a :: st) := by
  subst hp
  intro p e s m args below meth c vm0 k0 T locs A
  obtain ⟨cl, Ar, e1, f, r⟩ := F
  have hi : i < xs.length := (List.getElem?_eq_some_iff.mp hx).1
  obtain ⟨U, o, q, r⟩ := K p e s m args below meth c vm0 k0 T locs A
  exact ⟨U, o, A.2.1.caload A.1.1 (by rw [A.2.2.1]; exact Ar.1) (State.isArrayOf_alike (T := s.setVm vm0) A.2.2.2.2.1.alike Ar.2.1) Ar.2.2 (in_of e1 hj hi) (Ia.at e1 hj hx) (g := mkF m pc Ls (.int j :: .ref a :: st)) rfl rfl (hb A.1.2.1 hd) _ q, r⟩
theorem wkP.baload (pc' i : Nat) {xs : List Int32} {j : Int32} (x : Int32) (F : Ia Z h a .byte xs) (hd : decode B.2.1 pc = .ok (.baload, 1)) (hj : j.toInt = (i : Int)) (hx : xs[i]? = some x) (hp : pc + 1 = pc') (K : wkP l Z B R hs w0 Q ws h k n pc' Ls (.int x :: st)) : wkP l Z B R hs w0 Q ws h k n pc Ls (.int j :: .ref a :: st) := by
  subst hp
  intro p e s m args below meth c vm0 k0 T locs A
  obtain ⟨cl, Ar, e1, f, r⟩ := F
  have hi : i < xs.length := (List.getElem?_eq_some_iff.mp hx).1
  obtain ⟨U, o, q, r⟩ := K p e s m args below meth c vm0 k0 T locs A
  exact ⟨U, o, A.2.1.baloadBytes A.1.1 (by rw [A.2.2.1]; exact Ar.1) (State.isArrayOf_alike (T := s.setVm vm0) A.2.2.2.2.1.alike Ar.2.1) Ar.2.2 (in_of e1 hj hi) (Ia.at e1 hj hx) (g := mkF m pc Ls (.int j :: .ref a :: st)) rfl rfl (hb A.1.2.1 hd) _ q, r⟩
theorem wkP.alen (pc' : Nat) {xs : List Int32} {ty : FieldType} (z : Int32) (F : Ia Z h a ty xs) (hd : decode B.2.1 pc = .ok (.arraylength, 1)) (hz : Int32.ofNat xs.length = z) (hp : pc + 1 = pc') (K : wkP l Z B R hs w0 Q ws h k n pc' Ls (.int z :: st)) : wkP l Z B R hs w0 Q ws h k n pc Ls (.ref a :: st) := by
  subst hp hz
  intro p e s m args below meth c vm0 k0 T locs A
  obtain ⟨cl, Ar, e1, f, r⟩ := F
  obtain ⟨U, o, q, r⟩ := K p e s m args below meth c vm0 k0 T locs A
  refine ⟨U, o, A.2.1.arraylength A.1.1 (by rw [A.2.2.1]; exact Ar.1) (State.isArrayOf_alike (T := s.setVm vm0) A.2.2.2.2.1.alike Ar.2.1) (g := mkF m pc Ls (.ref a :: st)) rfl rfl (hb A.1.2.1 hd) _ ?_, r⟩
  have sz : cl.slots.size = xs.length := by rw [e1]; simp
  rw [sz]; exact q
theorem wkP.initO (pc' : Nat) {index : Nat} (w1 : (Cond.methodLink B.1.cls index Lib.objectInit).before a0 Z = true) (w2 : (Cond.instanceMethod Lib.objectInit).before a0 Z = true) (w3 : (Cond.code Lib.objectInit ⟨#[0xb1]⟩ 1 none).before a0 Z = true) (hd : decode B.2.1 pc = .ok (.invokespecial index, 3)) (hsz : Ls.size = B.2.2.1)
    (hf : 1 ≤ R.frames) (W : Nat) (hW : 2 * 0 + (st.map fun v => v.category).sum ≤ W) (hl : W + 12 ≤ R.locals) (hp : pc + 3 = pc') (K : wkP l Z B R hs w0 Q ws h k n pc' Ls st) : wkP l Z B R hs w0 Q ws h k n pc Ls (.ref a :: st) := by
  subst hp
  intro p e s m args below meth c vm0 k0 T locs A
  obtain ⟨T', X', e', stp⟩ := RoadKit.initO A.2.1 A.1.1 A.2.2.2.2.1 A.2.2.2.2.2.1 w1 w2 w3 A.2.2.1 (g := mkF m pc Ls (.ref a :: st)) rfl (hsz.trans A.1.2.2.1.symm) rfl (hb A.1.2.1 hd) hf hW hl
  obtain ⟨U, o, q, r⟩ := K p e s m args below meth c vm0 k0 T' locs (A.same X' e')
  exact ⟨U, o, stp _ q, r⟩
theorem wkP.ldc (pc' : Nat) {index : Nat} {text : String} (xs : List Int32) (N : Nat) (w : (Cond.stringLink B.1.cls index text).before a0 Z = true) (wS : ∀ a ∈ Bundle.stringAtoms, a.before a0 Z = true) (hE : EW Z a0 EL) (hmem : (B.1.cls, index) ∈ EL)
    (ht : (∀ c ∈ text.toList, c.toNat < 256) ∧ text.toList.map (fun c => Value.int (Jvm.Lit.byteI c.toNat.toUInt16)) = xs.map Value.int) (hl : text.toList.length = xs.length) (hxl : xs.length < 100000) (hd : decode B.2.1 pc = .ok (.ldc index, 2)) (hn : 4 * text.toList.length ≤ N) (hN : N ≤ 536870912) (hc : k + 2 ≤ R.cells) (hsl : n + (N + 4) ≤ R.slots) (hp : pc + 2 = pc')
    (K : ∀ (h' : Heap) (a b : Addr), Keep h h' [] → Exa Z h' a "java/lang/String" → Fld Z h' a "java/lang/String" "coder" "B" (.int 0) → Fld Z h' a "java/lang/String" "value" "[B" (.ref b) → Ia Z h' b .byte xs → (∀ x ∈ ws, x ≠ a ∧ x ≠ b) → wkP l Z B R hs w0 Q ws h' (k + 2) (n + (N + 4)) pc' Ls (.ref a :: st)) : wkP l Z B R hs w0 Q ws h k n pc Ls st := by
  subst hp
  intro p e s m args below meth c vm0 k0 T locs A
  have hz : (Int32.ofNat xs.length).toInt = (xs.length : Int) := toInt_of rfl (by omega)
  obtain ⟨z1, z2⟩ := nat_of_toInt hz
  obtain ⟨a1, a2, a3, ⟨a4, a5⟩, a6, a7, a8, a9, a10, a11, a12⟩ := A
  obtain ⟨a, T', h', k1, b, kb, X', e', E', S', k1', W', O', q1, q2, q3, q4, q5, q6, C', -, ne, stp⟩ := ldcCH a2 a1.1 a6 a7 w wS a3 a4 a5 hE hmem a8.1 ht z1 (by rw [z2]; simp) (g := mkF m pc Ls st) rfl (hb a1.2.1 hd) hn hN hc hsl
  have sf : ∀ x ∈ ws, Z.heap.size ≤ x ∧ x < h'.size ∧ Safe Z EL T'.vm h' x ∧ (x ∈ w0 ∨ hs.size ≤ x) := fun x hx => ⟨(a12 x hx).1, Nat.lt_of_lt_of_le (a12 x hx).2.1 E'.1, C'.safe (a12 x hx).2.1 (a12 x hx).2.2.1, (a12 x hx).2.2.2⟩
  obtain ⟨U, o, q, r⟩ := K h' a b (keepExt E') q1 q2 q3 (Ia.of_arv q4 rfl (by rw [z2]; simp)) (fun x hx => ne x (sf x hx).2.2.1) p e s m args below meth c T'.vm k1 T' locs ⟨a1, X', e', ⟨S', k1'⟩, W', O', a8.trans C', a9, a10.ext E', a11.ext E', sf⟩
  exact ⟨U, o, stp _ q, r⟩
theorem wkBack {B' : wkB} {rm : Room} {as : Array Value} {wc : List Addr} {Q' : Option Value → Heap → List Addr → Prop} {len W : Nat} (M : wkM l Z B' rm as h wc Q') (hO : Old Z Z.heap.size h) (hw : ∀ x ∈ wc, Z.heap.size ≤ x ∧ x < h.size) (hZ : Z.Warmed39 vm0) (wcd : (Cond.code B'.1 B'.2.1 B'.2.2.1 B'.2.2.2).before a0 Z = true) (wz : (Cond.initialized B'.1.cls).before a0 Z = true)
    (hf : rm.frames + 1 ≤ R.frames) (hl : W + (B'.2.2.1 + 11) + rm.locals ≤ R.locals) (hE : EW Z a0 EL) (H : CHv Z EL vm0 h) (hS : ∀ x ∈ wc, Safe Z EL vm0 h x) :
    BackS l R p e below (s.setVm vm0) args B'.1 len W (fun A a => a = as ∧ A.U.heap = h ∧ A.cells + rm.cells ≤ R.cells ∧ A.slots + rm.slots ≤ R.slots)
      (fun A _ v D => ∃ L os, (Q' v D.U.heap os ∧ Keep h D.U.heap wc ∧ Fr Z.heap.size L ∧ Old Z Z.heap.size D.U.heap ∧ wkSf Z D.U.vm D.U.heap h wc os) ∧ D.locs = A.locs ++ L ∧ D.cells = A.cells + rm.cells ∧ D.slots = A.slots + rm.slots ∧ CHr Z EL vm0 h D.U.vm D.U.heap) :=
  BackS.of_freeW (bytes := B'.2.1) (maxL := B'.2.2.1) (ret := B'.2.2.2) (E := fun _ first o t L k n => k = rm.cells ∧ n = rm.slots ∧ (∃ v os, o = .returned v ∧ (Q' v t.heap os ∧ Keep h t.heap wc ∧ Fr Z.heap.size L ∧ Old Z Z.heap.size t.heap ∧ wkSf Z t.vm t.heap h wc os)) ∧ CHr Z EL first.vm first.heap t.vm t.heap) (M hO hw) hf hl
    (fun m meth c A a Y hp => have hU : Z.Warmed39 A.U.vm := wtrans (s := s.setVm vm0) hZ Y.warmed
      ⟨by show (Cond.and _ .tt).before a A.U = true; rw [Cond.before_and, mv hU wcd]; rfl, mv hU wcd, mv hU wz, hp.2.2.1, hp.2.2.2⟩)
    (fun m meth c A a g mk Y hp => ⟨hp.1, wtrans (s := s.setVm vm0) hZ Y.warmed, hp.2.1, (CHv.at Y hZ hE H).1, fun x hx => (CHv.at Y hZ hE H).safe (hw x hx).2 (hS x hx)⟩) (fun _ _ _ _ _ _ _ _ _ => trivial)
    (fun _ _ _ _ ⟨v, L, h1, ⟨os, h2⟩, h3, h4⟩ => ⟨L, _, _, h4, rfl, rfl, ⟨v, os, h1, h2⟩, h3⟩)
    (fun m meth c A a g mk v t L k n Y hp _ _ ⟨e1, e2, ⟨v', os, e3, e4⟩, e5⟩ => by
      cases e3; subst e1 e2
      refine ⟨L, os, e4, rfl, rfl, rfl, (CHv.at Y hZ hE H).trans ?_⟩
      rw [← hp.2.1]; exact e5)
/-- behind a call: the walk goes on over the tables and the heap that the callee left -/
theorem wkAt.back {U : State} {L : List Loc} {os wc : List Addr} {k2 n2 : Nat} (A : wkAt p l e R s m args below meth c Z B hs w0 ws h k n vm0 k0 T locs) (X' : Stand p l e R ((s.setVm vm0).setVm U.vm) m args below meth c U (locs ++ L) k2 n2) (hS : (s.setVm vm0).Since U.vm U.heap.size) (hg : T.heap.size ≤ U.heap.size)
    (hK : Keep h U.heap wc) (hL : Fr Z.heap.size L) (hO : Old Z Z.heap.size U.heap) (hos : wkSf Z U.vm U.heap h wc os) (hC : CHr Z EL vm0 h U.vm U.heap) (hwc : ∀ x ∈ wc, x ∈ ws) : wkAt p l e R s m args below meth c Z B hs w0 (os ++ ws) U.heap k2 n2 U.vm U.heap.size U (locs ++ L) := by
  obtain ⟨a1, a2, a3, ⟨a4, a5⟩, a6, a7, a8, a9, a10, a11, a12⟩ := A
  obtain ⟨r1, r2, r3, r4⟩ := rebS (own := B.1.cls) a4 (by rw [a3]; exact a5) X' hS hg a6 a7
  refine ⟨a1, r1, rfl, ⟨r2, Nat.le_refl _⟩, r3, r4, a8.trans hC, Fr.app a9 hL, hO, a11.trans hK (fun x hx => (a12 x (hwc x hx)).2.2.2), fun x hx => ?_⟩
  rcases List.mem_append.mp hx with q | q
  · obtain ⟨o1, o2, o3, o4⟩ := hos x q
    refine ⟨o1, o2, o3, ?_⟩
    rcases o4 with o4 | o4
    · exact (a12 x (hwc x o4)).2.2.2
    · exact Or.inr (Nat.le_trans a11.1 o4)
  · exact ⟨(a12 x q).1, Nat.lt_of_lt_of_le (a12 x q).2.1 hK.1, hC.safe (a12 x q).2.1 (a12 x q).2.2.1, (a12 x q).2.2.2⟩
theorem wkP.callS (pc' : Nat) {B' : wkB} {rm : Room} {as : Array Value} {wc : List Addr} {Q' : Option Value → Heap → List Addr → Prop} {index : Nat} (M : wkM l Z B' rm as h wc Q') (argsL rest : List Value) (W : Nat) (hE : EW Z a0 EL)
    (w1 : (Cond.methodLink B.1.cls index B'.1).before a0 Z = true) (w2 : (Cond.static B'.1).before a0 Z = true) (w3 : (Cond.initialized B'.1.cls).before a0 Z = true) (w4 : (Cond.code B'.1 B'.2.1 B'.2.2.1 B'.2.2.2).before a0 Z = true)
    (hy : B'.1.cls ≠ "java/lang/invoke/MethodHandle" ∧ B'.1.cls ≠ "java/lang/invoke/VarHandle") (hd : decode B.2.1 pc = .ok (.invokestatic index, 3)) (hlen : ∀ sig, parseMethodDescriptor B'.1.desc = some sig → argsL.length = sig.parameters.length) (has : argsL.toArray = as) (hst : st = argsL.reverse ++ rest) (hsz : Ls.size = B.2.2.1)
    (hwc : ∀ x ∈ wc, x ∈ ws) (hW : 2 * 0 + (rest.map fun v => v.category).sum ≤ W) (hf : rm.frames + 1 ≤ R.frames) (hl : W + (B'.2.2.1 + 11) + rm.locals ≤ R.locals) (hc : k + rm.cells ≤ R.cells) (hsl : n + rm.slots ≤ R.slots) (hp : pc + 3 = pc')
    (K : ∀ (v : Option Value) (h' : Heap) (os : List Addr), Q' v h' os → Keep h h' wc → wkP l Z B R hs w0 Q (os ++ ws) h' (k + rm.cells) (n + rm.slots) pc' Ls (v.toList ++ rest)) : wkP l Z B R hs w0 Q ws h k n pc Ls st := by
  subst hp hst has
  intro p e s m args below meth c vm0 k0 T locs A
  obtain ⟨a1, a2, a3, ⟨a4, a5⟩, a6, a7, a8, a9, a10, a11, a12⟩ := id A
  obtain ⟨v, vm₁, D, -, X', hS, hg, ⟨L, os, ⟨b1, b2, b3, b4, b5⟩, c1, c2, c3, c4⟩, stp⟩ := callSS a2 a1.1 a7 (mvT (s := s.setVm vm0) a6 w1) (mvT (s := s.setVm vm0) a6 w2) (mvT (s := s.setVm vm0) a6 w3) (mvT (s := s.setVm vm0) a6 w4) hy (wkBack M a10 (fun x hx => ⟨(a12 x (hwc x hx)).1, (a12 x (hwc x hx)).2.1⟩) a6 w4 w3 hf hl hE a8.1 (fun x hx => (a12 x (hwc x hx)).2.2.1)) (g := mkF m pc Ls (argsL.reverse ++ rest)) rfl (hsz.trans a1.2.2.1.symm) hlen rfl hW (hb a1.2.1 hd) (fun _ _ => ⟨rfl, a3, hc, hsl⟩)
  obtain ⟨U, dl, dc, ds⟩ := D
  dsimp only at X' hS hg b1 b2 b4 b5 c1 c2 c3 c4 stp
  subst c1 c2 c3
  obtain ⟨U2, o, q, r⟩ := K v U.heap os b1 b2 p e s m args below meth c U.vm U.heap.size U _ (A.back X' hS hg b2 b3 b4 b5 c4 hwc)
  exact ⟨U2, o, stp.trans q, r⟩
theorem wkP.callI (pc' : Nat) {B' : wkB} {rm : Room} {as : Array Value} {wc : List Addr} {Q' : Option Value → Heap → List Addr → Prop} {index : Nat} (M : wkM l Z B' rm as h wc Q') (argsL rest : List Value) (W : Nat) (hE : EW Z a0 EL)
    (w1 : (Cond.methodLink B.1.cls index B'.1).before a0 Z = true) (w2 : (Cond.instanceMethod B'.1).before a0 Z = true) (w3 : (Cond.initialized B'.1.cls).before a0 Z = true) (w4 : (Cond.code B'.1 B'.2.1 B'.2.2.1 B'.2.2.2).before a0 Z = true) (hnm : B'.1.name = "<init>") (hrt : B'.2.2.2 = none)
    (hy : B'.1.cls ≠ "java/lang/invoke/MethodHandle" ∧ B'.1.cls ≠ "java/lang/invoke/VarHandle") (hd : decode B.2.1 pc = .ok (.invokespecial index, 3)) (hlen : ∀ sig, parseMethodDescriptor B'.1.desc = some sig → argsL.length = sig.parameters.length) (has : (.ref a :: argsL).toArray = as) (hst : st = argsL.reverse ++ .ref a :: rest) (hsz : Ls.size = B.2.2.1)
    (hwc : ∀ x ∈ wc, x ∈ ws) (hW : 2 * 0 + (rest.map fun v => v.category).sum ≤ W) (hf : rm.frames + 1 ≤ R.frames) (hl : W + (B'.2.2.1 + 11) + rm.locals ≤ R.locals) (hc : k + rm.cells ≤ R.cells) (hsl : n + rm.slots ≤ R.slots) (hp : pc + 3 = pc')
    (K : ∀ (v : Option Value) (h' : Heap) (os : List Addr), Q' v h' os → Keep h h' wc → wkP l Z B R hs w0 Q (os ++ ws) h' (k + rm.cells) (n + rm.slots) pc' Ls (v.toList ++ rest)) : wkP l Z B R hs w0 Q ws h k n pc Ls st := by
  subst hp hst has
  intro p e s m args below meth c vm0 k0 T locs A
  obtain ⟨a1, a2, a3, ⟨a4, a5⟩, a6, a7, a8, a9, a10, a11, a12⟩ := id A
  have w4' : (Cond.code B'.1 B'.2.1 B'.2.2.1 none).before a0 Z = true := hrt ▸ w4
  obtain ⟨v, vm₁, D, -, X', hS, hg, ⟨L, os, ⟨b1, b2, b3, b4, b5⟩, c1, c2, c3, c4⟩, stp⟩ := a2.specialBackS a1.1 hnm a7 (mvT (s := s.setVm vm0) a6 w1) (mvT (s := s.setVm vm0) a6 w2) (mvT (s := s.setVm vm0) a6 w4') hy (wkBack M a10 (fun x hx => ⟨(a12 x (hwc x hx)).1, (a12 x (hwc x hx)).2.1⟩) a6 w4 w3 hf hl hE a8.1 (fun x hx => (a12 x (hwc x hx)).2.2.1)) (g := mkF m pc Ls (argsL.reverse ++ .ref a :: rest)) rfl (hsz.trans a1.2.2.1.symm) (Steps.refl _) hlen rfl hW (hb a1.2.1 hd) (fun _ _ => ⟨rfl, a3, hc, hsl⟩)
  obtain ⟨U, dl, dc, ds⟩ := D
  dsimp only at X' hS hg b1 b2 b4 b5 c1 c2 c3 c4 stp
  subst c1 c2 c3
  obtain ⟨U2, o, q, r⟩ := K v U.heap os b1 b2 p e s m args below meth c U.vm U.heap.size U _ (A.back X' hS hg b2 b3 b4 b5 c4 hwc)
  exact ⟨U2, o, stp.trans q, r⟩
theorem wkNFs {C : String} {y : MethodName} (w : (Cond.selects C y y).before a0 Z = true) : ∀ s : State, Z.Warmed39 s.vm → NotFace s y := fun s hZ => notFace_of_selects (args := #[]) (mvT hZ w)
theorem wkP.callV (pc' : Nat) {y : MethodName} {C : String} {B' : wkB} {rm : Room} {as : Array Value} {wc : List Addr} {Q' : Option Value → Heap → List Addr → Prop} {index : Nat} (M : wkM l Z B' rm as h wc Q') (argsL rest : List Value) (W : Nat) (hE : EW Z a0 EL) (E : Exa Z h a C) (NF : ∀ s : State, Z.Warmed39 s.vm → NotFace s y)
    (w1 : (Cond.methodLink B.1.cls index y).before a0 Z = true) (w1' : (Cond.declares y).before a0 Z = true) (w2 : (Cond.selects C y B'.1).before a0 Z = true) (w2' : (Cond.instanceMethod B'.1).before a0 Z = true) (w3 : (Cond.initialized B'.1.cls).before a0 Z = true) (w4 : (Cond.code B'.1 B'.2.1 B'.2.2.1 B'.2.2.2).before a0 Z = true)
    (hy : y.cls ≠ "java/lang/invoke/MethodHandle" ∧ y.cls ≠ "java/lang/invoke/VarHandle") (hd : decode B.2.1 pc = .ok (.invokevirtual index, 3)) (hlen : ∀ sig, parseMethodDescriptor y.desc = some sig → argsL.length = sig.parameters.length) (has : (.ref a :: argsL).toArray = as) (hst : st = argsL.reverse ++ .ref a :: rest) (hsz : Ls.size = B.2.2.1)
    (hwc : ∀ x ∈ wc, x ∈ ws) (hW : 2 * 0 + (rest.map fun v => v.category).sum ≤ W) (hf : rm.frames + 1 ≤ R.frames) (hl : W + (B'.2.2.1 + 11) + rm.locals ≤ R.locals) (hc : k + rm.cells ≤ R.cells) (hsl : n + rm.slots ≤ R.slots) (hp : pc + 3 = pc')
    (K : ∀ (v : Option Value) (h' : Heap) (os : List Addr), Q' v h' os → Keep h h' wc → wkP l Z B R hs w0 Q (os ++ ws) h' (k + rm.cells) (n + rm.slots) pc' Ls (v.toList ++ rest)) : wkP l Z B R hs w0 Q ws h k n pc Ls st := by
  subst hp hst has
  intro p e s m args below meth c vm0 k0 T locs A
  obtain ⟨a1, a2, a3, ⟨a4, a5⟩, a6, a7, a8, a9, a10, a11, a12⟩ := id A
  obtain ⟨cq, kq, i1, i2, i3⟩ := isOf (s := s.setVm vm0) a6 a3 E
  obtain ⟨v, vm₁, D, -, X', hS, hg, ⟨L, os, ⟨b1, b2, b3, b4, b5⟩, c1, c2, c3, c4⟩, stp⟩ := a2.virtualBackS a1.1 (y := y) (z := B'.1) a7 (mvT (s := s.setVm vm0) a6 w1) (mvT (s := s.setVm vm0) a6 w1') (NF (s.setVm vm0) a6) (mvT (s := s.setVm vm0) a6 w2) (mvT (s := s.setVm vm0) a6 w2') hy (wkBack M a10 (fun x hx => ⟨(a12 x (hwc x hx)).1, (a12 x (hwc x hx)).2.1⟩) a6 w4 w3 hf hl hE a8.1 (fun x hx => (a12 x (hwc x hx)).2.2.1)) i1 i3 (g := mkF m pc Ls (argsL.reverse ++ .ref a :: rest)) rfl (hsz.trans a1.2.2.1.symm) (Steps.refl _) hlen rfl hW (hb a1.2.1 hd) (fun _ _ => ⟨rfl, a3, hc, hsl⟩)
  obtain ⟨U, dl, dc, ds⟩ := D
  dsimp only at X' hS hg b1 b2 b4 b5 c1 c2 c3 c4 stp
  subst c1 c2 c3
  obtain ⟨U2, o, q, r⟩ := K v U.heap os b1 b2 p e s m args below meth c U.vm U.heap.size U _ (A.back X' hS hg b2 b3 b4 b5 c4 hwc)
  exact ⟨U2, o, stp.trans q, r⟩
theorem wkP.old (K : Ext Z.heap h → wkP l Z B R hs w0 Q ws h k n pc Ls st) : wkP l Z B R hs w0 Q ws h k n pc Ls st := by
  intro p e s m args below meth c vm0 k0 T locs A
  exact K A.2.2.2.2.2.2.2.2.1.2 p e s m args below meth c vm0 k0 T locs A
theorem wkP.callF (pc' : Nat) {y : MethodName} {C : String} {B' : wkB} {rm : Room} {as : Array Value} {wc : List Addr} {Q' : Option Value → Heap → List Addr → Prop} {index count : Nat} (M : wkM l Z B' rm as h wc Q') (argsL rest : List Value) (W : Nat) (hE : EW Z a0 EL) (E : Exa Z h a C)
    (w1 : (Cond.methodLink B.1.cls index y).before a0 Z = true) (w1' : (Cond.declares y).before a0 Z = true) (wf : (Cond.interfaceMethod y.cls y.cls y.name y.desc).before a0 Z = true) (hfa : ((Cond.interfaceMethod y.cls y.cls y.name y.desc).onTables && (Cond.interfaceMethod y.cls y.cls y.name y.desc).keepsFace) = true) (w2 : (Cond.selects C y B'.1).before a0 Z = true) (w2' : (Cond.instanceMethod B'.1).before a0 Z = true) (wp : (Cond.publicMethod B'.1).before a0 Z = true) (wu : (Cond.unhidden C y.name y.desc).before a0 Z = true) (wk : (Cond.castable C y.cls).before a0 Z = true) (w3 : (Cond.initialized B'.1.cls).before a0 Z = true) (w4 : (Cond.code B'.1 B'.2.1 B'.2.2.1 B'.2.2.2).before a0 Z = true)
    (hy : y.cls ≠ "java/lang/invoke/MethodHandle" ∧ y.cls ≠ "java/lang/invoke/VarHandle") (hd : decode B.2.1 pc = .ok (.invokeinterface index count, 5)) (hlen : ∀ sig, parseMethodDescriptor y.desc = some sig → argsL.length = sig.parameters.length) (has : (.ref a :: argsL).toArray = as) (hst : st = argsL.reverse ++ .ref a :: rest) (hsz : Ls.size = B.2.2.1)
    (hwc : ∀ x ∈ wc, x ∈ ws) (hW : 2 * 0 + (rest.map fun v => v.category).sum ≤ W) (hf : rm.frames + 1 ≤ R.frames) (hl : W + (B'.2.2.1 + 11) + rm.locals ≤ R.locals) (hc : k + rm.cells ≤ R.cells) (hsl : n + rm.slots ≤ R.slots) (hp : pc + 5 = pc')
    (K : ∀ (v : Option Value) (h' : Heap) (os : List Addr), Q' v h' os → Keep h h' wc → wkP l Z B R hs w0 Q (os ++ ws) h' (k + rm.cells) (n + rm.slots) pc' Ls (v.toList ++ rest)) : wkP l Z B R hs w0 Q ws h k n pc Ls st := by
  subst hp hst has
  intro p e s m args below meth c vm0 k0 T locs A
  obtain ⟨a1, a2, a3, ⟨a4, a5⟩, a6, a7, a8, a9, a10, a11, a12⟩ := id A
  obtain ⟨cq, kq, i1, i2, i3⟩ := isOf (s := s.setVm vm0) a6 a3 E
  obtain ⟨v, vm₁, D, -, X', hS, hg, ⟨L, os, ⟨b1, b2, b3, b4, b5⟩, c1, c2, c3, c4⟩, stp⟩ := a2.interfaceBackS a1.1 (xi := y) (y := B'.1) a7 (mvT (s := s.setVm vm0) a6 w1) (mvT (s := s.setVm vm0) a6 w1') (mvT (s := s.setVm vm0) a6 wf hfa) (mvT (s := s.setVm vm0) a6 w2) (mvT (s := s.setVm vm0) a6 w2') (mvT (s := s.setVm vm0) a6 wp) (mvT (s := s.setVm vm0) a6 wu) (mvT (s := s.setVm vm0) a6 wk) hy (wkBack M a10 (fun x hx => ⟨(a12 x (hwc x hx)).1, (a12 x (hwc x hx)).2.1⟩) a6 w4 w3 hf hl hE a8.1 (fun x hx => (a12 x (hwc x hx)).2.2.1)) i1 i2 i3 (g := mkF m pc Ls (argsL.reverse ++ .ref a :: rest)) rfl (hsz.trans a1.2.2.1.symm) (Steps.refl _) hlen rfl hW (hb a1.2.1 hd) (fun _ _ => ⟨rfl, a3, hc, hsl⟩)
  obtain ⟨U, dl, dc, ds⟩ := D
  dsimp only at X' hS hg b1 b2 b4 b5 c1 c2 c3 c4 stp
  subst c1 c2 c3
  obtain ⟨U2, o, q, r⟩ := K v U.heap os b1 b2 p e s m args below meth c U.vm U.heap.size U _ (A.back X' hS hg b2 b3 b4 b5 c4 hwc)
  exact ⟨U2, o, stp.trans q, r⟩
theorem wkMore {s U : State} {o : Outcome} {L : List Loc} {k n k1 n1 : Nat} (hE : ReturnedEndW s o U L k n) (hk : k ≤ k1) (hn : n ≤ n1) : ReturnedEndW s o U L k1 n1 := ⟨hE.1, hE.2.1, hE.2.2.1, hE.2.2.2.mono hk hn⟩
theorem wkP.leave {rv : Option Value} {stk : List Value} (os : List Addr) (hE : EW Z a0 EL) (hq : Q rv h os) (hos : ∀ x ∈ os, x ∈ ws) (hk : k ≤ R.cells) (hn : n ≤ R.slots) (hv : B.2.2.2 = none → rv = none)
    (hst : ∀ (p : Program) (e : Env) (s : State) (m : MethodId) (args : Array Value) (below : List Frame) (meth : Method) (c : Code) (vm0 : Vm) (T : State) (locs : List Loc), p.tables.exec = Jvm.exec → c.code = B.2.1 → meth.sig.returnType = B.2.2.2 → Stand p l e R (s.setVm vm0) m args below meth c T locs k n → ∀ fs, (∀ (f : JFrame) (acts : List Action), f.method = m → f.locked = none → f.entered = [] → (doReturn e (T.setTop f) acts rv).1 = T.setFrames fs) → Steps p.tables e below (T.setTop (mkF m pc Ls stk)) (T.setFrames fs)) : wkP l Z B R hs w0 Q ws h k n pc Ls stk := by
  intro p e s m args below meth c vm0 k0 T locs A
  obtain ⟨a1, a2, a3, ⟨a4, a5⟩, a6, a7, a8, a9, a10, a11, a12⟩ := A
  obtain ⟨fs, hr, hrun, hended, hend⟩ := a2.leaveW a4 (by rw [a3]; exact a5) (v := rv) (fun q => hv (a1.2.2.2.1.symm.trans q)) a1.2.2.2.2.1
  have C1 := CHv.at a2 a6 hE a8.1
  subst a3
  exact ⟨_, _, hst p e s m args below meth c vm0 T locs a1.1 a1.2.1 a1.2.2.2.1 a2 fs hr, hrun, hended, rv, locs, rfl, ⟨os, hq, a11, a9, a10, fun x hx => ⟨(a12 x (hos x hx)).1, (a12 x (hos x hx)).2.1, C1.safe (a12 x (hos x hx)).2.1 (a12 x (hos x hx)).2.2.1, (a12 x (hos x hx)).2.2.2⟩⟩, a8.trans C1, wkMore hend hk hn⟩
theorem wkP.ret {i : Instr} {w : Value} (t : FieldType) (os : List Addr) (hE : EW Z a0 EL) (hd : decode B.2.1 pc = .ok (i, 1)) (hret : B.2.2.2 = some t) (hnr : narrow t w = w)
    (hi : (i = .ireturn ∧ (t = .int ∨ t = .boolean ∨ t = .byte ∨ t = .char ∨ t = .short) ∧ ∃ z, w = .int z) ∨ (i = .lreturn ∧ t = .long ∧ ∃ z, w = .long z) ∨ (i = .dreturn ∧ t = .double ∧ ∃ z, w = .double z) ∨ (i = .freturn ∧ t = .float ∧ ∃ z, w = .float z) ∨ (i = .areturn ∧ t.isReference = true ∧ w.isRef = true))
    (hk : k ≤ R.cells) (hn : n ≤ R.slots) (hos : ∀ x ∈ os, x ∈ ws) (hq : Q (some w) h os) : wkP l Z B R hs w0 Q ws h k n pc Ls (w :: st) :=
  .leave os hE hq hos hk hn (fun q => by rw [hret] at q; cases q) (fun p e s m args below meth c vm0 T locs hx hby hr X fs hl => retOut X hx (hr.trans hret) hnr hi (hb hby hd) hl)
theorem wkP.retA {a : Addr} (t : FieldType) (os : List Addr) (hE : EW Z a0 EL) (hd : decode B.2.1 pc = .ok (.areturn, 1)) (hret : B.2.2.2 = some t) (ht : t.isReference = true)
    (hk : k ≤ R.cells) (hn : n ≤ R.slots) (hos : ∀ x ∈ os, x ∈ ws) (hq : Q (some (.ref a)) h os) : wkP l Z B R hs w0 Q ws h k n pc Ls (.ref a :: st) :=
  .ret t os hE hd hret (by cases t <;> first | rfl | exact Bool.noConfusion ht) (Or.inr (Or.inr (Or.inr (Or.inr ⟨rfl, ht, rfl⟩)))) hk hn hos hq
theorem wkP.retI {z : Int32} (t : FieldType) (os : List Addr) (hE : EW Z a0 EL) (hd : decode B.2.1 pc = .ok (.ireturn, 1)) (hret : B.2.2.2 = some t) (ht : t = .int ∨ t = .boolean ∨ t = .byte ∨ t = .char ∨ t = .short) (hnr : narrow t (.int z) = .int z)
    (hk : k ≤ R.cells) (hn : n ≤ R.slots) (hos : ∀ x ∈ os, x ∈ ws) (hq : Q (some (.int z)) h os) : wkP l Z B R hs w0 Q ws h k n pc Ls (.int z :: st) :=
  .ret t os hE hd hret hnr (Or.inl ⟨rfl, ht, z, rfl⟩) hk hn hos hq
theorem wkP.ret0 (os : List Addr) (hE : EW Z a0 EL) (hd : decode B.2.1 pc = .ok (.return_, 1)) (hret : B.2.2.2 = none)
    (hk : k ≤ R.cells) (hn : n ≤ R.slots) (hos : ∀ x ∈ os, x ∈ ws) (hq : Q none h os) : wkP l Z B R hs w0 Q ws h k n pc Ls [] :=
  .leave os hE hq hos hk hn (fun _ => rfl) (fun p e s m args below meth c vm0 T locs hx hby hr X fs hl => X.returnOut hx (hr.trans hret) (hb hby hd) hl)
theorem wkM.of {B : wkB} {rm : Room} {as : Array Value} {w0 : List Addr} (Ls : Array Slot) (hpl : plainFor B.1 = true) (he : ∀ m, entryFrame m as B.2.2.1 = mkF m 0 Ls []) (K : wkP l Z B rm h w0 Q w0 h 0 0 0 Ls []) : wkM l Z B rm as h w0 Q := by
  intro hO hw
  refine MetFree.of_bodySF hpl hisR ?_
  intro p e s m args below meth c s₁ Bd hml hP hK
  obtain ⟨rfl, hZ, hh, hC, hS⟩ := hP
  have X0 : Stand p l e rm s m args below meth c s₁ [] 0 0 := Stand.of_body Bd
  have e0 : s₁.heap = h := by rw [← hh, Bd.state]; rfl
  subst hh
  obtain ⟨U, o, st, r⟩ := K p e s m args below meth c s.vm s.heap.size s₁ [] ⟨⟨Bd.exec, Bd.bytes, hml, Bd.returns, Bd.notSynchronized, (name_of_methodNamed Bd.named Bd.method).1⟩, X0, e0, ⟨(State.WarmedH.refl s).since _, Nat.le_refl _⟩, hZ, findClass_of_methodNamed Bd.named, CHr.refl hC, Fr.nil _, hO, Keep.refl _ _, fun x hx => ⟨(hw x hx).1, (hw x hx).2, hS x hx, Or.inl hx⟩⟩
  exact ⟨U, o, castTop (he m) st, r⟩
theorem wkM.mono {B : wkB} {rm : Room} {as : Array Value} {w0 : List Addr} {Q2 : Option Value → Heap → List Addr → Prop} (M : wkM l Z B rm as h w0 Q) (q : ∀ v h' os, Q v h' os → Q2 v h' os) : wkM l Z B rm as h w0 Q2 := by
  intro hO hw p e ha hc hk s m args below hf happ hP hK
  obtain ⟨n, o, h1, h2, h3, v, L, e1, ⟨os, b1, b2⟩, r⟩ := M hO hw p e ha hc hk s m args below hf happ hP hK
  exact ⟨n, o, h1, h2, h3, v, L, e1, ⟨os, q _ _ _ b1, b2⟩, r⟩
end Rules2
end WK

section Str
/-- what is known all along: the sheet's words, the literals' texts, compact strings are on -/
def G (Z : State) (a0 : Array Value) : Prop := (∀ d ∈ tables_1, d.before a0 Z = true) ∧ EW Z a0 EL ∧ (∃ z : Int32, Sta Z Z.heap "java/lang/String" "COMPACT_STRINGS" "Z" (.int z) ∧ ¬ z = 0) ∧ (∃ eS : Addr, Sta Z Z.heap "java/util/ImmutableCollections" "EMPTY_SET" "Ljava/util/ImmutableCollections$SetN;" (.ref eS) ∧ Exa Z Z.heap eS "java/util/ImmutableCollections$SetN" ∧ Fld Z Z.heap eS "java/util/ImmutableCollections$SetN" "size" "I" (.int 0)) ∧ (∃ eM : Addr, Sta Z Z.heap "java/util/ImmutableCollections" "EMPTY_MAP" "Ljava/util/ImmutableCollections$MapN;" (.ref eM))
theorem ofNat_lt {i j : Nat} (hi : i < 2 ^ 31) (hj : j < 2 ^ 31) : Int32.ofNat i < Int32.ofNat j ↔ i < j := by
  rw [Int32.lt_iff_toInt_lt, toInt_of (n := Int32.ofNat i) rfl hi, toInt_of (n := Int32.ofNat j) rfl hj]; omega
theorem ofNat_inj {i j : Nat} (hi : i < 2 ^ 31) (hj : j < 2 ^ 31) : Int32.ofNat i = Int32.ofNat j ↔ i = j := by
  constructor
  · intro q
    have := congrArg Int32.toInt q
    rw [toInt_of (n := Int32.ofNat i) rfl hi, toInt_of (n := Int32.ofNat j) rfl hj] at this; omega
  · intro q; rw [q]
theorem toI {i : Nat} (hi : i < 2 ^ 31) : (Int32.ofNat i).toInt = (i : Int) := toInt_of rfl hi
theorem inc1 (i : Nat) : Int32.ofNat i + Int32.ofInt 1 = Int32.ofNat (i + 1) := (inc_ofNat i).symm
def lo8 (c : Int32) : Int32 := c.toInt8.toInt32
theorem lo8_i (c : Int32) : (lo8 c).toInt = c.toInt.bmod 256 := by simp [lo8]
theorem nar_lo8 (c : Int32) : nar .byte (lo8 c) = lo8 c := by
  show (lo8 c).toInt8.toInt32 = lo8 c
  rw [← Int32.toInt_inj]
  show (lo8 (lo8 c)).toInt = _
  rw [lo8_i, lo8_i]; simp
def lat (cs : List Int32) : Prop := ∀ c ∈ cs, ¬ c < 0 ∧ ¬ 255 < c
theorem lo8_inj {c d : Int32} (hc : ¬ c < 0 ∧ ¬ 255 < c) (hd : ¬ d < 0 ∧ ¬ 255 < d) (q : lo8 c = lo8 d) : c = d := by
  have := congrArg Int32.toInt q
  rw [lo8_i, lo8_i] at this
  rw [← Int32.toInt_inj]
  simp only [Int32.lt_iff_toInt_lt, Int32.reduceToInt] at hc hd
  simp only [Int.bmod_def] at this
  omega
theorem lat_map_inj : ∀ {cs ds : List Int32}, lat cs → lat ds → cs.map lo8 = ds.map lo8 → cs = ds
  | [], [], _, _, _ => rfl
  | [], _ :: _, _, _, q => by simp at q
  | _ :: _, [], _, _, q => by simp at q
  | c :: cs, d :: ds, h1, h2, q => by
    simp only [List.map_cons, List.cons.injEq] at q
    rw [lo8_inj (h1 c (by simp)) (h2 d (by simp)) q.1, lat_map_inj (fun x hx => h1 x (by simp [hx])) (fun x hx => h2 x (by simp [hx])) q.2]
/-- the String at a is compact, its bytes (at b) those of these chars -/
def SL (Z : State) (h : Heap) (a b : Addr) (cs : List Int32) : Prop := Exa Z h a "java/lang/String" ∧ Fld Z h a "java/lang/String" "coder" "B" (.int 0) ∧ Fld Z h a "java/lang/String" "value" "[B" (.ref b) ∧ Ia Z h b .byte (cs.map lo8) ∧ lat cs
theorem SL.keep {Z : State} {h h' : Heap} {a b : Addr} {cs : List Int32} {ws : List Addr} (F : SL Z h a b cs) (K : Keep h h' ws) (qa : a ∉ ws) (qb : b ∉ ws) : SL Z h' a b cs := ⟨F.1.keep K, F.2.1.keep K qa, F.2.2.1.keep K qa, F.2.2.2.1.keep K qb, F.2.2.2.2⟩
theorem SL.lta {Z : State} {h : Heap} {a b : Addr} {cs : List Int32} (F : SL Z h a b cs) : h.size > a := F.1.lt
theorem SL.ltb {Z : State} {h : Heap} {a b : Addr} {cs : List Int32} (F : SL Z h a b cs) : h.size > b := F.2.2.2.1.lt
theorem SL.len {Z : State} {h : Heap} {a b : Addr} {cs : List Int32} (F : SL Z h a b cs) : cs.length < 2 ^ 31 := by have := F.2.2.2.1.len; simpa using this
theorem narB0 {z : Int32} (q : z = 0 ∨ z = 1) : narrow .boolean (.int z) = .int z := by rcases q with rfl | rfl <;> rfl
end Str
theorem w0 {Z : State} {a0 : Array Value} (hw : ∀ d ∈ tables_1, d.before a0 Z = true) : (Jvm.Cond.methodLink "com/example/gate_authz/gateauthz/core/CallerInvalidTokenPinLaw" (7 : Nat) ({ cls := "com/example/gate_authz/gateauthz/core/CallerInvalidTokenPinLaw", name := "str", desc := "(IIII)Ljava/lang/String;" } : Jvm.MethodName)).before a0 Z = true := hw _ (List.mem_of_getElem? (i := 0) rfl)
theorem w1 {Z : State} {a0 : Array Value} (hw : ∀ d ∈ tables_1, d.before a0 Z = true) : (Jvm.Cond.static ({ cls := "com/example/gate_authz/gateauthz/core/CallerInvalidTokenPinLaw", name := "str", desc := "(IIII)Ljava/lang/String;" } : Jvm.MethodName)).before a0 Z = true := hw _ (List.mem_of_getElem? (i := 1) rfl)
theorem w2 {Z : State} {a0 : Array Value} (hw : ∀ d ∈ tables_1, d.before a0 Z = true) : (Jvm.Cond.initialized "com/example/gate_authz/gateauthz/core/CallerInvalidTokenPinLaw").before a0 Z = true := hw _ (List.mem_of_getElem? (i := 2) rfl)
theorem w3 {Z : State} {a0 : Array Value} (hw : ∀ d ∈ tables_1, d.before a0 Z = true) : (Jvm.Cond.code ({ cls := "com/example/gate_authz/gateauthz/core/CallerInvalidTokenPinLaw", name := "str", desc := "(IIII)Ljava/lang/String;" } : Jvm.MethodName) method_3_code (8 : Nat) (Option.some (Jvm.ClassFile.FieldType.object "java/lang/String"))).before a0 Z = true := hw _ (List.mem_of_getElem? (i := 3) rfl)
theorem w4 {Z : State} {a0 : Array Value} (hw : ∀ d ∈ tables_1, d.before a0 Z = true) : (Jvm.Cond.classLink "com/example/gate_authz/gateauthz/core/CallerInvalidTokenPinLaw" (24 : Nat) "java/lang/String").before a0 Z = true := hw _ (List.mem_of_getElem? (i := 4) rfl)
theorem w5 {Z : State} {a0 : Array Value} (hw : ∀ d ∈ tables_1, d.before a0 Z = true) : (Jvm.Cond.instantiable "java/lang/String" (4 : Nat)).before a0 Z = true := hw _ (List.mem_of_getElem? (i := 5) rfl)
theorem w6 {Z : State} {a0 : Array Value} (hw : ∀ d ∈ tables_1, d.before a0 Z = true) : (Jvm.Cond.initialized "java/lang/String").before a0 Z = true := hw _ (List.mem_of_getElem? (i := 6) rfl)
theorem w7 {Z : State} {a0 : Array Value} (hw : ∀ d ∈ tables_1, d.before a0 Z = true) : (Jvm.Cond.arrayClass Jvm.ClassFile.FieldType.char).before a0 Z = true := hw _ (List.mem_of_getElem? (i := 7) rfl)
theorem w8 {Z : State} {a0 : Array Value} (hw : ∀ d ∈ tables_1, d.before a0 Z = true) : (Jvm.Cond.methodLink "com/example/gate_authz/gateauthz/core/CallerInvalidTokenPinLaw" (49 : Nat) ({ cls := "java/lang/String", name := "<init>", desc := "([C)V" } : Jvm.MethodName)).before a0 Z = true := hw _ (List.mem_of_getElem? (i := 8) rfl)
theorem w9 {Z : State} {a0 : Array Value} (hw : ∀ d ∈ tables_1, d.before a0 Z = true) : (Jvm.Cond.instanceMethod ({ cls := "java/lang/String", name := "<init>", desc := "([C)V" } : Jvm.MethodName)).before a0 Z = true := hw _ (List.mem_of_getElem? (i := 9) rfl)
theorem w10 {Z : State} {a0 : Array Value} (hw : ∀ d ∈ tables_1, d.before a0 Z = true) : (Jvm.Cond.code ({ cls := "java/lang/String", name := "<init>", desc := "([C)V" } : Jvm.MethodName) jdk_42_method_3_code (2 : Nat) (Option.none : Option Jvm.ClassFile.FieldType)).before a0 Z = true := hw _ (List.mem_of_getElem? (i := 10) rfl)
theorem w11 {Z : State} {a0 : Array Value} (hw : ∀ d ∈ tables_1, d.before a0 Z = true) : (Jvm.Cond.methodLink "java/lang/String" (27 : Nat) ({ cls := "java/lang/String", name := "<init>", desc := "([CIILjava/lang/Void;)V" } : Jvm.MethodName)).before a0 Z = true := hw _ (List.mem_of_getElem? (i := 11) rfl)
theorem w12 {Z : State} {a0 : Array Value} (hw : ∀ d ∈ tables_1, d.before a0 Z = true) : (Jvm.Cond.instanceMethod ({ cls := "java/lang/String", name := "<init>", desc := "([CIILjava/lang/Void;)V" } : Jvm.MethodName)).before a0 Z = true := hw _ (List.mem_of_getElem? (i := 12) rfl)
theorem w14 {Z : State} {a0 : Array Value} (hw : ∀ d ∈ tables_1, d.before a0 Z = true) : (Jvm.Cond.code ({ cls := "java/lang/String", name := "<init>", desc := "([CIILjava/lang/Void;)V" } : Jvm.MethodName) jdk_42_method_149_code (6 : Nat) (Option.none : Option Jvm.ClassFile.FieldType)).before a0 Z = true := hw _ (List.mem_of_getElem? (i := 14) rfl)
theorem w15 {Z : State} {a0 : Array Value} (hw : ∀ d ∈ tables_1, d.before a0 Z = true) : (Jvm.Cond.methodLink "java/lang/String" (1 : Nat) ({ cls := "java/lang/Object", name := "<init>", desc := "()V" } : Jvm.MethodName)).before a0 Z = true := hw _ (List.mem_of_getElem? (i := 15) rfl)
theorem w16 {Z : State} {a0 : Array Value} (hw : ∀ d ∈ tables_1, d.before a0 Z = true) : (Jvm.Cond.instanceMethod ({ cls := "java/lang/Object", name := "<init>", desc := "()V" } : Jvm.MethodName)).before a0 Z = true := hw _ (List.mem_of_getElem? (i := 16) rfl)
theorem w17 {Z : State} {a0 : Array Value} (hw : ∀ d ∈ tables_1, d.before a0 Z = true) : (Jvm.Cond.code ({ cls := "java/lang/Object", name := "<init>", desc := "()V" } : Jvm.MethodName) object_method_1_code (1 : Nat) (Option.none : Option Jvm.ClassFile.FieldType)).before a0 Z = true := hw _ (List.mem_of_getElem? (i := 17) rfl)
theorem w18 {Z : State} {a0 : Array Value} (hw : ∀ d ∈ tables_1, d.before a0 Z = true) : (Jvm.Cond.stringLink "java/lang/String" (7 : Nat) "").before a0 Z = true := hw _ (List.mem_of_getElem? (i := 18) rfl)
theorem w19 {Z : State} {a0 : Array Value} (hw : ∀ d ∈ tables_1, d.before a0 Z = true) : (Jvm.Cond.arrayClass Jvm.ClassFile.FieldType.byte).before a0 Z = true := hw _ (List.mem_of_getElem? (i := 19) rfl)
theorem w20 {Z : State} {a0 : Array Value} (hw : ∀ d ∈ tables_1, d.before a0 Z = true) : (Jvm.Cond.laysFinal "java/lang/String" "java/lang/String" "value" "[B").before a0 Z = true := hw _ (List.mem_of_getElem? (i := 20) rfl)
theorem w21 {Z : State} {a0 : Array Value} (hw : ∀ d ∈ tables_1, d.before a0 Z = true) : (Jvm.Cond.laysFinal "java/lang/String" "java/lang/String" "coder" "B").before a0 Z = true := hw _ (List.mem_of_getElem? (i := 21) rfl)
theorem w22 {Z : State} {a0 : Array Value} (hw : ∀ d ∈ tables_1, d.before a0 Z = true) : (Jvm.Cond.soleField "java/lang/String" "value").before a0 Z = true := hw _ (List.mem_of_getElem? (i := 22) rfl)
theorem w23 {Z : State} {a0 : Array Value} (hw : ∀ d ∈ tables_1, d.before a0 Z = true) : (Jvm.Cond.soleField "java/lang/String" "coder").before a0 Z = true := hw _ (List.mem_of_getElem? (i := 23) rfl)
theorem w24 {Z : State} {a0 : Array Value} (hw : ∀ d ∈ tables_1, d.before a0 Z = true) : (Jvm.Cond.fieldLink "java/lang/String" (9 : Nat) "java/lang/String" "value" "[B").before a0 Z = true := hw _ (List.mem_of_getElem? (i := 24) rfl)
theorem w25 {Z : State} {a0 : Array Value} (hw : ∀ d ∈ tables_1, d.before a0 Z = true) : (Jvm.Cond.fieldLink "java/lang/String" (15 : Nat) "java/lang/String" "coder" "B").before a0 Z = true := hw _ (List.mem_of_getElem? (i := 25) rfl)
theorem w26 {Z : State} {a0 : Array Value} (hw : ∀ d ∈ tables_1, d.before a0 Z = true) : (Jvm.Cond.methodLink "com/example/gate_authz/gateauthz/core/CallerInvalidTokenPinLaw" (13 : Nat) ({ cls := "com/example/gate_authz/gateauthz/core/Caller", name := "invalidToken", desc := "(Ljava/lang/String;)Lcom/example/gate_authz/gateauthz/core/Caller;" } : Jvm.MethodName)).before a0 Z = true := hw _ (List.mem_of_getElem? (i := 26) rfl)
theorem w27 {Z : State} {a0 : Array Value} (hw : ∀ d ∈ tables_1, d.before a0 Z = true) : (Jvm.Cond.static ({ cls := "com/example/gate_authz/gateauthz/core/Caller", name := "invalidToken", desc := "(Ljava/lang/String;)Lcom/example/gate_authz/gateauthz/core/Caller;" } : Jvm.MethodName)).before a0 Z = true := hw _ (List.mem_of_getElem? (i := 27) rfl)
theorem w28 {Z : State} {a0 : Array Value} (hw : ∀ d ∈ tables_1, d.before a0 Z = true) : (Jvm.Cond.initialized "com/example/gate_authz/gateauthz/core/Caller").before a0 Z = true := hw _ (List.mem_of_getElem? (i := 28) rfl)
theorem w29 {Z : State} {a0 : Array Value} (hw : ∀ d ∈ tables_1, d.before a0 Z = true) : (Jvm.Cond.code ({ cls := "com/example/gate_authz/gateauthz/core/Caller", name := "invalidToken", desc := "(Ljava/lang/String;)Lcom/example/gate_authz/gateauthz/core/Caller;" } : Jvm.MethodName) prog_2_method_8_code (1 : Nat) (Option.some (Jvm.ClassFile.FieldType.object "com/example/gate_authz/gateauthz/core/Caller"))).before a0 Z = true := hw _ (List.mem_of_getElem? (i := 29) rfl)
theorem w30 {Z : State} {a0 : Array Value} (hw : ∀ d ∈ tables_1, d.before a0 Z = true) : (Jvm.Cond.classLink "com/example/gate_authz/gateauthz/core/Caller" (2 : Nat) "com/example/gate_authz/gateauthz/core/Caller").before a0 Z = true := hw _ (List.mem_of_getElem? (i := 30) rfl)
theorem w31 {Z : State} {a0 : Array Value} (hw : ∀ d ∈ tables_1, d.before a0 Z = true) : (Jvm.Cond.instantiable "com/example/gate_authz/gateauthz/core/Caller" (7 : Nat)).before a0 Z = true := hw _ (List.mem_of_getElem? (i := 31) rfl)
theorem w32 {Z : State} {a0 : Array Value} (hw : ∀ d ∈ tables_1, d.before a0 Z = true) : (Jvm.Cond.stringLink "com/example/gate_authz/gateauthz/core/Caller" (141 : Nat) "problem").before a0 Z = true := hw _ (List.mem_of_getElem? (i := 32) rfl)
theorem w33 {Z : State} {a0 : Array Value} (hw : ∀ d ∈ tables_1, d.before a0 Z = true) : (Jvm.Cond.methodLink "com/example/gate_authz/gateauthz/core/Caller" (143 : Nat) ({ cls := "java/util/Objects", name := "requireNonNull", desc := "(Ljava/lang/Object;Ljava/lang/String;)Ljava/lang/Object;" } : Jvm.MethodName)).before a0 Z = true := hw _ (List.mem_of_getElem? (i := 33) rfl)
theorem w34 {Z : State} {a0 : Array Value} (hw : ∀ d ∈ tables_1, d.before a0 Z = true) : (Jvm.Cond.static ({ cls := "java/util/Objects", name := "requireNonNull", desc := "(Ljava/lang/Object;Ljava/lang/String;)Ljava/lang/Object;" } : Jvm.MethodName)).before a0 Z = true := hw _ (List.mem_of_getElem? (i := 34) rfl)
theorem w35 {Z : State} {a0 : Array Value} (hw : ∀ d ∈ tables_1, d.before a0 Z = true) : (Jvm.Cond.initialized "java/util/Objects").before a0 Z = true := hw _ (List.mem_of_getElem? (i := 35) rfl)
theorem w36 {Z : State} {a0 : Array Value} (hw : ∀ d ∈ tables_1, d.before a0 Z = true) : (Jvm.Cond.code ({ cls := "java/util/Objects", name := "requireNonNull", desc := "(Ljava/lang/Object;Ljava/lang/String;)Ljava/lang/Object;" } : Jvm.MethodName) jdk_31_method_11_code (2 : Nat) (Option.some (Jvm.ClassFile.FieldType.object "java/lang/Object"))).before a0 Z = true := hw _ (List.mem_of_getElem? (i := 36) rfl)
theorem w37 {Z : State} {a0 : Array Value} (hw : ∀ d ∈ tables_1, d.before a0 Z = true) : (Jvm.Cond.classLink "com/example/gate_authz/gateauthz/core/Caller" (22 : Nat) "java/lang/String").before a0 Z = true := hw _ (List.mem_of_getElem? (i := 37) rfl)
theorem w38 {Z : State} {a0 : Array Value} (hw : ∀ d ∈ tables_1, d.before a0 Z = true) : (Jvm.Cond.methodLink "com/example/gate_authz/gateauthz/core/Caller" (146 : Nat) ({ cls := "com/example/gate_authz/gateauthz/core/Caller", name := "<init>", desc := "(Ljava/lang/String;)V" } : Jvm.MethodName)).before a0 Z = true := hw _ (List.mem_of_getElem? (i := 38) rfl)
theorem w39 {Z : State} {a0 : Array Value} (hw : ∀ d ∈ tables_1, d.before a0 Z = true) : (Jvm.Cond.instanceMethod ({ cls := "com/example/gate_authz/gateauthz/core/Caller", name := "<init>", desc := "(Ljava/lang/String;)V" } : Jvm.MethodName)).before a0 Z = true := hw _ (List.mem_of_getElem? (i := 39) rfl)
theorem w40 {Z : State} {a0 : Array Value} (hw : ∀ d ∈ tables_1, d.before a0 Z = true) : (Jvm.Cond.code ({ cls := "com/example/gate_authz/gateauthz/core/Caller", name := "<init>", desc := "(Ljava/lang/String;)V" } : Jvm.MethodName) prog_2_method_6_code (2 : Nat) (Option.none : Option Jvm.ClassFile.FieldType)).before a0 Z = true := hw _ (List.mem_of_getElem? (i := 40) rfl)
theorem w41 {Z : State} {a0 : Array Value} (hw : ∀ d ∈ tables_1, d.before a0 Z = true) : (Jvm.Cond.methodLink "com/example/gate_authz/gateauthz/core/Caller" (16 : Nat) ({ cls := "java/lang/Object", name := "<init>", desc := "()V" } : Jvm.MethodName)).before a0 Z = true := hw _ (List.mem_of_getElem? (i := 41) rfl)
theorem w42 {Z : State} {a0 : Array Value} (hw : ∀ d ∈ tables_1, d.before a0 Z = true) : (Jvm.Cond.fieldLink "com/example/gate_authz/gateauthz/core/Caller" (34 : Nat) "com/example/gate_authz/gateauthz/core/Caller" "userId" "Ljava/lang/String;").before a0 Z = true := hw _ (List.mem_of_getElem? (i := 42) rfl)
theorem w43 {Z : State} {a0 : Array Value} (hw : ∀ d ∈ tables_1, d.before a0 Z = true) : (Jvm.Cond.laysFinal "com/example/gate_authz/gateauthz/core/Caller" "com/example/gate_authz/gateauthz/core/Caller" "userId" "Ljava/lang/String;").before a0 Z = true := hw _ (List.mem_of_getElem? (i := 43) rfl)
theorem w44 {Z : State} {a0 : Array Value} (hw : ∀ d ∈ tables_1, d.before a0 Z = true) : (Jvm.Cond.fieldLink "com/example/gate_authz/gateauthz/core/Caller" (38 : Nat) "com/example/gate_authz/gateauthz/core/Caller" "tenantId" "Ljava/lang/String;").before a0 Z = true := hw _ (List.mem_of_getElem? (i := 44) rfl)
theorem w45 {Z : State} {a0 : Array Value} (hw : ∀ d ∈ tables_1, d.before a0 Z = true) : (Jvm.Cond.laysFinal "com/example/gate_authz/gateauthz/core/Caller" "com/example/gate_authz/gateauthz/core/Caller" "tenantId" "Ljava/lang/String;").before a0 Z = true := hw _ (List.mem_of_getElem? (i := 45) rfl)
theorem w46 {Z : State} {a0 : Array Value} (hw : ∀ d ∈ tables_1, d.before a0 Z = true) : (Jvm.Cond.methodLink "com/example/gate_authz/gateauthz/core/Caller" (135 : Nat) ({ cls := "java/util/Set", name := "of", desc := "()Ljava/util/Set;" } : Jvm.MethodName)).before a0 Z = true := hw _ (List.mem_of_getElem? (i := 46) rfl)
theorem w47 {Z : State} {a0 : Array Value} (hw : ∀ d ∈ tables_1, d.before a0 Z = true) : (Jvm.Cond.static ({ cls := "java/util/Set", name := "of", desc := "()Ljava/util/Set;" } : Jvm.MethodName)).before a0 Z = true := hw _ (List.mem_of_getElem? (i := 47) rfl)
theorem w48 {Z : State} {a0 : Array Value} (hw : ∀ d ∈ tables_1, d.before a0 Z = true) : (Jvm.Cond.initialized "java/util/Set").before a0 Z = true := hw _ (List.mem_of_getElem? (i := 48) rfl)
theorem w49 {Z : State} {a0 : Array Value} (hw : ∀ d ∈ tables_1, d.before a0 Z = true) : (Jvm.Cond.code ({ cls := "java/util/Set", name := "of", desc := "()Ljava/util/Set;" } : Jvm.MethodName) jdk_96_method_17_code (0 : Nat) (Option.some (Jvm.ClassFile.FieldType.object "java/util/Set"))).before a0 Z = true := hw _ (List.mem_of_getElem? (i := 49) rfl)
theorem w50 {Z : State} {a0 : Array Value} (hw : ∀ d ∈ tables_1, d.before a0 Z = true) : (Jvm.Cond.fieldLink "java/util/Set" (9 : Nat) "java/util/ImmutableCollections" "EMPTY_SET" "Ljava/util/ImmutableCollections$SetN;").before a0 Z = true := hw _ (List.mem_of_getElem? (i := 50) rfl)
theorem w52 {Z : State} {a0 : Array Value} (hw : ∀ d ∈ tables_1, d.before a0 Z = true) : (Jvm.Cond.fieldLink "com/example/gate_authz/gateauthz/core/Caller" (58 : Nat) "com/example/gate_authz/gateauthz/core/Caller" "permissions" "Ljava/util/Set;").before a0 Z = true := hw _ (List.mem_of_getElem? (i := 52) rfl)
theorem w53 {Z : State} {a0 : Array Value} (hw : ∀ d ∈ tables_1, d.before a0 Z = true) : (Jvm.Cond.laysFinal "com/example/gate_authz/gateauthz/core/Caller" "com/example/gate_authz/gateauthz/core/Caller" "permissions" "Ljava/util/Set;").before a0 Z = true := hw _ (List.mem_of_getElem? (i := 53) rfl)
theorem w54 {Z : State} {a0 : Array Value} (hw : ∀ d ∈ tables_1, d.before a0 Z = true) : (Jvm.Cond.fieldLink "com/example/gate_authz/gateauthz/core/Caller" (67 : Nat) "com/example/gate_authz/gateauthz/core/Caller" "roles" "Ljava/util/Set;").before a0 Z = true := hw _ (List.mem_of_getElem? (i := 54) rfl)
theorem w55 {Z : State} {a0 : Array Value} (hw : ∀ d ∈ tables_1, d.before a0 Z = true) : (Jvm.Cond.laysFinal "com/example/gate_authz/gateauthz/core/Caller" "com/example/gate_authz/gateauthz/core/Caller" "roles" "Ljava/util/Set;").before a0 Z = true := hw _ (List.mem_of_getElem? (i := 55) rfl)
theorem w56 {Z : State} {a0 : Array Value} (hw : ∀ d ∈ tables_1, d.before a0 Z = true) : (Jvm.Cond.methodLink "com/example/gate_authz/gateauthz/core/Caller" (7 : Nat) ({ cls := "java/util/Map", name := "of", desc := "()Ljava/util/Map;" } : Jvm.MethodName)).before a0 Z = true := hw _ (List.mem_of_getElem? (i := 56) rfl)
theorem w57 {Z : State} {a0 : Array Value} (hw : ∀ d ∈ tables_1, d.before a0 Z = true) : (Jvm.Cond.static ({ cls := "java/util/Map", name := "of", desc := "()Ljava/util/Map;" } : Jvm.MethodName)).before a0 Z = true := hw _ (List.mem_of_getElem? (i := 57) rfl)
theorem w58 {Z : State} {a0 : Array Value} (hw : ∀ d ∈ tables_1, d.before a0 Z = true) : (Jvm.Cond.initialized "java/util/Map").before a0 Z = true := hw _ (List.mem_of_getElem? (i := 58) rfl)
theorem w59 {Z : State} {a0 : Array Value} (hw : ∀ d ∈ tables_1, d.before a0 Z = true) : (Jvm.Cond.code ({ cls := "java/util/Map", name := "of", desc := "()Ljava/util/Map;" } : Jvm.MethodName) jdk_72_method_26_code (0 : Nat) (Option.some (Jvm.ClassFile.FieldType.object "java/util/Map"))).before a0 Z = true := hw _ (List.mem_of_getElem? (i := 59) rfl)
theorem w60 {Z : State} {a0 : Array Value} (hw : ∀ d ∈ tables_1, d.before a0 Z = true) : (Jvm.Cond.fieldLink "java/util/Map" (81 : Nat) "java/util/ImmutableCollections" "EMPTY_MAP" "Ljava/util/ImmutableCollections$MapN;").before a0 Z = true := hw _ (List.mem_of_getElem? (i := 60) rfl)
theorem w61 {Z : State} {a0 : Array Value} (hw : ∀ d ∈ tables_1, d.before a0 Z = true) : (Jvm.Cond.fieldLink "com/example/gate_authz/gateauthz/core/Caller" (98 : Nat) "com/example/gate_authz/gateauthz/core/Caller" "claims" "Ljava/util/Map;").before a0 Z = true := hw _ (List.mem_of_getElem? (i := 61) rfl)
theorem w62 {Z : State} {a0 : Array Value} (hw : ∀ d ∈ tables_1, d.before a0 Z = true) : (Jvm.Cond.laysFinal "com/example/gate_authz/gateauthz/core/Caller" "com/example/gate_authz/gateauthz/core/Caller" "claims" "Ljava/util/Map;").before a0 Z = true := hw _ (List.mem_of_getElem? (i := 62) rfl)
theorem w63 {Z : State} {a0 : Array Value} (hw : ∀ d ∈ tables_1, d.before a0 Z = true) : (Jvm.Cond.fieldLink "com/example/gate_authz/gateauthz/core/Caller" (102 : Nat) "com/example/gate_authz/gateauthz/core/Caller" "tokenProblem" "Ljava/lang/String;").before a0 Z = true := hw _ (List.mem_of_getElem? (i := 63) rfl)
theorem w64 {Z : State} {a0 : Array Value} (hw : ∀ d ∈ tables_1, d.before a0 Z = true) : (Jvm.Cond.laysFinal "com/example/gate_authz/gateauthz/core/Caller" "com/example/gate_authz/gateauthz/core/Caller" "tokenProblem" "Ljava/lang/String;").before a0 Z = true := hw _ (List.mem_of_getElem? (i := 64) rfl)
theorem w65 {Z : State} {a0 : Array Value} (hw : ∀ d ∈ tables_1, d.before a0 Z = true) : (Jvm.Cond.fieldLink "com/example/gate_authz/gateauthz/core/Caller" (105 : Nat) "com/example/gate_authz/gateauthz/core/Caller" "permissionsProblem" "Ljava/lang/String;").before a0 Z = true := hw _ (List.mem_of_getElem? (i := 65) rfl)
theorem w66 {Z : State} {a0 : Array Value} (hw : ∀ d ∈ tables_1, d.before a0 Z = true) : (Jvm.Cond.laysFinal "com/example/gate_authz/gateauthz/core/Caller" "com/example/gate_authz/gateauthz/core/Caller" "permissionsProblem" "Ljava/lang/String;").before a0 Z = true := hw _ (List.mem_of_getElem? (i := 66) rfl)
theorem w67 {Z : State} {a0 : Array Value} (hw : ∀ d ∈ tables_1, d.before a0 Z = true) : (Jvm.Cond.methodLink "com/example/gate_authz/gateauthz/core/CallerInvalidTokenPinLaw" (19 : Nat) ({ cls := "com/example/gate_authz/gateauthz/core/Caller", name := "getTokenProblem", desc := "()Ljava/lang/String;" } : Jvm.MethodName)).before a0 Z = true := hw _ (List.mem_of_getElem? (i := 67) rfl)
theorem w68 {Z : State} {a0 : Array Value} (hw : ∀ d ∈ tables_1, d.before a0 Z = true) : (Jvm.Cond.declares ({ cls := "com/example/gate_authz/gateauthz/core/Caller", name := "getTokenProblem", desc := "()Ljava/lang/String;" } : Jvm.MethodName)).before a0 Z = true := hw _ (List.mem_of_getElem? (i := 68) rfl)
theorem w69 {Z : State} {a0 : Array Value} (hw : ∀ d ∈ tables_1, d.before a0 Z = true) : (Jvm.Cond.instanceMethod ({ cls := "com/example/gate_authz/gateauthz/core/Caller", name := "getTokenProblem", desc := "()Ljava/lang/String;" } : Jvm.MethodName)).before a0 Z = true := hw _ (List.mem_of_getElem? (i := 69) rfl)
theorem w70 {Z : State} {a0 : Array Value} (hw : ∀ d ∈ tables_1, d.before a0 Z = true) : (Jvm.Cond.selects "com/example/gate_authz/gateauthz/core/Caller" ({ cls := "com/example/gate_authz/gateauthz/core/Caller", name := "getTokenProblem", desc := "()Ljava/lang/String;" } : Jvm.MethodName) ({ cls := "com/example/gate_authz/gateauthz/core/Caller", name := "getTokenProblem", desc := "()Ljava/lang/String;" } : Jvm.MethodName)).before a0 Z = true := hw _ (List.mem_of_getElem? (i := 70) rfl)
theorem w71 {Z : State} {a0 : Array Value} (hw : ∀ d ∈ tables_1, d.before a0 Z = true) : (Jvm.Cond.code ({ cls := "com/example/gate_authz/gateauthz/core/Caller", name := "getTokenProblem", desc := "()Ljava/lang/String;" } : Jvm.MethodName) prog_2_method_12_code (1 : Nat) (Option.some (Jvm.ClassFile.FieldType.object "java/lang/String"))).before a0 Z = true := hw _ (List.mem_of_getElem? (i := 71) rfl)
theorem w72 {Z : State} {a0 : Array Value} (hw : ∀ d ∈ tables_1, d.before a0 Z = true) : (Jvm.Cond.methodLink "com/example/gate_authz/gateauthz/core/CallerInvalidTokenPinLaw" (23 : Nat) ({ cls := "java/lang/String", name := "equals", desc := "(Ljava/lang/Object;)Z" } : Jvm.MethodName)).before a0 Z = true := hw _ (List.mem_of_getElem? (i := 72) rfl)
theorem w73 {Z : State} {a0 : Array Value} (hw : ∀ d ∈ tables_1, d.before a0 Z = true) : (Jvm.Cond.declares ({ cls := "java/lang/String", name := "equals", desc := "(Ljava/lang/Object;)Z" } : Jvm.MethodName)).before a0 Z = true := hw _ (List.mem_of_getElem? (i := 73) rfl)
theorem w74 {Z : State} {a0 : Array Value} (hw : ∀ d ∈ tables_1, d.before a0 Z = true) : (Jvm.Cond.instanceMethod ({ cls := "java/lang/String", name := "equals", desc := "(Ljava/lang/Object;)Z" } : Jvm.MethodName)).before a0 Z = true := hw _ (List.mem_of_getElem? (i := 74) rfl)
theorem w75 {Z : State} {a0 : Array Value} (hw : ∀ d ∈ tables_1, d.before a0 Z = true) : (Jvm.Cond.selects "java/lang/String" ({ cls := "java/lang/String", name := "equals", desc := "(Ljava/lang/Object;)Z" } : Jvm.MethodName) ({ cls := "java/lang/String", name := "equals", desc := "(Ljava/lang/Object;)Z" } : Jvm.MethodName)).before a0 Z = true := hw _ (List.mem_of_getElem? (i := 75) rfl)
theorem w76 {Z : State} {a0 : Array Value} (hw : ∀ d ∈ tables_1, d.before a0 Z = true) : (Jvm.Cond.code ({ cls := "java/lang/String", name := "equals", desc := "(Ljava/lang/Object;)Z" } : Jvm.MethodName) jdk_42_method_66_code (3 : Nat) (Option.some Jvm.ClassFile.FieldType.boolean)).before a0 Z = true := hw _ (List.mem_of_getElem? (i := 76) rfl)
theorem w77 {Z : State} {a0 : Array Value} (hw : ∀ d ∈ tables_1, d.before a0 Z = true) : (Jvm.Cond.methodLink "com/example/gate_authz/gateauthz/core/CallerInvalidTokenPinLaw" (29 : Nat) ({ cls := "com/example/gate_authz/gateauthz/core/Caller", name := "isAuthenticated", desc := "()Z" } : Jvm.MethodName)).before a0 Z = true := hw _ (List.mem_of_getElem? (i := 77) rfl)
theorem w78 {Z : State} {a0 : Array Value} (hw : ∀ d ∈ tables_1, d.before a0 Z = true) : (Jvm.Cond.declares ({ cls := "com/example/gate_authz/gateauthz/core/Caller", name := "isAuthenticated", desc := "()Z" } : Jvm.MethodName)).before a0 Z = true := hw _ (List.mem_of_getElem? (i := 78) rfl)
theorem w79 {Z : State} {a0 : Array Value} (hw : ∀ d ∈ tables_1, d.before a0 Z = true) : (Jvm.Cond.instanceMethod ({ cls := "com/example/gate_authz/gateauthz/core/Caller", name := "isAuthenticated", desc := "()Z" } : Jvm.MethodName)).before a0 Z = true := hw _ (List.mem_of_getElem? (i := 79) rfl)
theorem w80 {Z : State} {a0 : Array Value} (hw : ∀ d ∈ tables_1, d.before a0 Z = true) : (Jvm.Cond.selects "com/example/gate_authz/gateauthz/core/Caller" ({ cls := "com/example/gate_authz/gateauthz/core/Caller", name := "isAuthenticated", desc := "()Z" } : Jvm.MethodName) ({ cls := "com/example/gate_authz/gateauthz/core/Caller", name := "isAuthenticated", desc := "()Z" } : Jvm.MethodName)).before a0 Z = true := hw _ (List.mem_of_getElem? (i := 80) rfl)
theorem w81 {Z : State} {a0 : Array Value} (hw : ∀ d ∈ tables_1, d.before a0 Z = true) : (Jvm.Cond.code ({ cls := "com/example/gate_authz/gateauthz/core/Caller", name := "isAuthenticated", desc := "()Z" } : Jvm.MethodName) prog_2_method_11_code (1 : Nat) (Option.some Jvm.ClassFile.FieldType.boolean)).before a0 Z = true := hw _ (List.mem_of_getElem? (i := 81) rfl)
theorem w82 {Z : State} {a0 : Array Value} (hw : ∀ d ∈ tables_1, d.before a0 Z = true) : (Jvm.Cond.methodLink "com/example/gate_authz/gateauthz/core/CallerInvalidTokenPinLaw" (33 : Nat) ({ cls := "com/example/gate_authz/gateauthz/core/Caller", name := "getUserId", desc := "()Ljava/lang/String;" } : Jvm.MethodName)).before a0 Z = true := hw _ (List.mem_of_getElem? (i := 82) rfl)
theorem w83 {Z : State} {a0 : Array Value} (hw : ∀ d ∈ tables_1, d.before a0 Z = true) : (Jvm.Cond.declares ({ cls := "com/example/gate_authz/gateauthz/core/Caller", name := "getUserId", desc := "()Ljava/lang/String;" } : Jvm.MethodName)).before a0 Z = true := hw _ (List.mem_of_getElem? (i := 83) rfl)
theorem w84 {Z : State} {a0 : Array Value} (hw : ∀ d ∈ tables_1, d.before a0 Z = true) : (Jvm.Cond.instanceMethod ({ cls := "com/example/gate_authz/gateauthz/core/Caller", name := "getUserId", desc := "()Ljava/lang/String;" } : Jvm.MethodName)).before a0 Z = true := hw _ (List.mem_of_getElem? (i := 84) rfl)
theorem w85 {Z : State} {a0 : Array Value} (hw : ∀ d ∈ tables_1, d.before a0 Z = true) : (Jvm.Cond.selects "com/example/gate_authz/gateauthz/core/Caller" ({ cls := "com/example/gate_authz/gateauthz/core/Caller", name := "getUserId", desc := "()Ljava/lang/String;" } : Jvm.MethodName) ({ cls := "com/example/gate_authz/gateauthz/core/Caller", name := "getUserId", desc := "()Ljava/lang/String;" } : Jvm.MethodName)).before a0 Z = true := hw _ (List.mem_of_getElem? (i := 85) rfl)
theorem w86 {Z : State} {a0 : Array Value} (hw : ∀ d ∈ tables_1, d.before a0 Z = true) : (Jvm.Cond.code ({ cls := "com/example/gate_authz/gateauthz/core/Caller", name := "getUserId", desc := "()Ljava/lang/String;" } : Jvm.MethodName) prog_2_method_14_code (1 : Nat) (Option.some (Jvm.ClassFile.FieldType.object "java/lang/String"))).before a0 Z = true := hw _ (List.mem_of_getElem? (i := 86) rfl)
theorem w87 {Z : State} {a0 : Array Value} (hw : ∀ d ∈ tables_1, d.before a0 Z = true) : (Jvm.Cond.methodLink "com/example/gate_authz/gateauthz/core/CallerInvalidTokenPinLaw" (36 : Nat) ({ cls := "com/example/gate_authz/gateauthz/core/Caller", name := "getTenantId", desc := "()Ljava/lang/String;" } : Jvm.MethodName)).before a0 Z = true := hw _ (List.mem_of_getElem? (i := 87) rfl)
theorem w88 {Z : State} {a0 : Array Value} (hw : ∀ d ∈ tables_1, d.before a0 Z = true) : (Jvm.Cond.declares ({ cls := "com/example/gate_authz/gateauthz/core/Caller", name := "getTenantId", desc := "()Ljava/lang/String;" } : Jvm.MethodName)).before a0 Z = true := hw _ (List.mem_of_getElem? (i := 88) rfl)
theorem w89 {Z : State} {a0 : Array Value} (hw : ∀ d ∈ tables_1, d.before a0 Z = true) : (Jvm.Cond.instanceMethod ({ cls := "com/example/gate_authz/gateauthz/core/Caller", name := "getTenantId", desc := "()Ljava/lang/String;" } : Jvm.MethodName)).before a0 Z = true := hw _ (List.mem_of_getElem? (i := 89) rfl)
theorem w90 {Z : State} {a0 : Array Value} (hw : ∀ d ∈ tables_1, d.before a0 Z = true) : (Jvm.Cond.selects "com/example/gate_authz/gateauthz/core/Caller" ({ cls := "com/example/gate_authz/gateauthz/core/Caller", name := "getTenantId", desc := "()Ljava/lang/String;" } : Jvm.MethodName) ({ cls := "com/example/gate_authz/gateauthz/core/Caller", name := "getTenantId", desc := "()Ljava/lang/String;" } : Jvm.MethodName)).before a0 Z = true := hw _ (List.mem_of_getElem? (i := 90) rfl)
theorem w91 {Z : State} {a0 : Array Value} (hw : ∀ d ∈ tables_1, d.before a0 Z = true) : (Jvm.Cond.code ({ cls := "com/example/gate_authz/gateauthz/core/Caller", name := "getTenantId", desc := "()Ljava/lang/String;" } : Jvm.MethodName) prog_2_method_15_code (1 : Nat) (Option.some (Jvm.ClassFile.FieldType.object "java/lang/String"))).before a0 Z = true := hw _ (List.mem_of_getElem? (i := 91) rfl)
theorem w92 {Z : State} {a0 : Array Value} (hw : ∀ d ∈ tables_1, d.before a0 Z = true) : (Jvm.Cond.methodLink "com/example/gate_authz/gateauthz/core/CallerInvalidTokenPinLaw" (39 : Nat) ({ cls := "com/example/gate_authz/gateauthz/core/Caller", name := "getPermissionsProblem", desc := "()Ljava/lang/String;" } : Jvm.MethodName)).before a0 Z = true := hw _ (List.mem_of_getElem? (i := 92) rfl)
theorem w93 {Z : State} {a0 : Array Value} (hw : ∀ d ∈ tables_1, d.before a0 Z = true) : (Jvm.Cond.declares ({ cls := "com/example/gate_authz/gateauthz/core/Caller", name := "getPermissionsProblem", desc := "()Ljava/lang/String;" } : Jvm.MethodName)).before a0 Z = true := hw _ (List.mem_of_getElem? (i := 93) rfl)
theorem w94 {Z : State} {a0 : Array Value} (hw : ∀ d ∈ tables_1, d.before a0 Z = true) : (Jvm.Cond.instanceMethod ({ cls := "com/example/gate_authz/gateauthz/core/Caller", name := "getPermissionsProblem", desc := "()Ljava/lang/String;" } : Jvm.MethodName)).before a0 Z = true := hw _ (List.mem_of_getElem? (i := 94) rfl)
theorem w95 {Z : State} {a0 : Array Value} (hw : ∀ d ∈ tables_1, d.before a0 Z = true) : (Jvm.Cond.selects "com/example/gate_authz/gateauthz/core/Caller" ({ cls := "com/example/gate_authz/gateauthz/core/Caller", name := "getPermissionsProblem", desc := "()Ljava/lang/String;" } : Jvm.MethodName) ({ cls := "com/example/gate_authz/gateauthz/core/Caller", name := "getPermissionsProblem", desc := "()Ljava/lang/String;" } : Jvm.MethodName)).before a0 Z = true := hw _ (List.mem_of_getElem? (i := 95) rfl)
theorem w96 {Z : State} {a0 : Array Value} (hw : ∀ d ∈ tables_1, d.before a0 Z = true) : (Jvm.Cond.code ({ cls := "com/example/gate_authz/gateauthz/core/Caller", name := "getPermissionsProblem", desc := "()Ljava/lang/String;" } : Jvm.MethodName) prog_2_method_13_code (1 : Nat) (Option.some (Jvm.ClassFile.FieldType.object "java/lang/String"))).before a0 Z = true := hw _ (List.mem_of_getElem? (i := 96) rfl)
theorem w97 {Z : State} {a0 : Array Value} (hw : ∀ d ∈ tables_1, d.before a0 Z = true) : (Jvm.Cond.methodLink "com/example/gate_authz/gateauthz/core/CallerInvalidTokenPinLaw" (42 : Nat) ({ cls := "com/example/gate_authz/gateauthz/core/Caller", name := "hasPermission", desc := "(Ljava/lang/String;)Z" } : Jvm.MethodName)).before a0 Z = true := hw _ (List.mem_of_getElem? (i := 97) rfl)
theorem w98 {Z : State} {a0 : Array Value} (hw : ∀ d ∈ tables_1, d.before a0 Z = true) : (Jvm.Cond.declares ({ cls := "com/example/gate_authz/gateauthz/core/Caller", name := "hasPermission", desc := "(Ljava/lang/String;)Z" } : Jvm.MethodName)).before a0 Z = true := hw _ (List.mem_of_getElem? (i := 98) rfl)
theorem w99 {Z : State} {a0 : Array Value} (hw : ∀ d ∈ tables_1, d.before a0 Z = true) : (Jvm.Cond.instanceMethod ({ cls := "com/example/gate_authz/gateauthz/core/Caller", name := "hasPermission", desc := "(Ljava/lang/String;)Z" } : Jvm.MethodName)).before a0 Z = true := hw _ (List.mem_of_getElem? (i := 99) rfl)
theorem w100 {Z : State} {a0 : Array Value} (hw : ∀ d ∈ tables_1, d.before a0 Z = true) : (Jvm.Cond.selects "com/example/gate_authz/gateauthz/core/Caller" ({ cls := "com/example/gate_authz/gateauthz/core/Caller", name := "hasPermission", desc := "(Ljava/lang/String;)Z" } : Jvm.MethodName) ({ cls := "com/example/gate_authz/gateauthz/core/Caller", name := "hasPermission", desc := "(Ljava/lang/String;)Z" } : Jvm.MethodName)).before a0 Z = true := hw _ (List.mem_of_getElem? (i := 100) rfl)
theorem w101 {Z : State} {a0 : Array Value} (hw : ∀ d ∈ tables_1, d.before a0 Z = true) : (Jvm.Cond.code ({ cls := "com/example/gate_authz/gateauthz/core/Caller", name := "hasPermission", desc := "(Ljava/lang/String;)Z" } : Jvm.MethodName) prog_2_method_19_code (2 : Nat) (Option.some Jvm.ClassFile.FieldType.boolean)).before a0 Z = true := hw _ (List.mem_of_getElem? (i := 101) rfl)
theorem w102 {Z : State} {a0 : Array Value} (hw : ∀ d ∈ tables_1, d.before a0 Z = true) : (Jvm.Cond.methodLink "com/example/gate_authz/gateauthz/core/Caller" (153 : Nat) ({ cls := "java/util/Set", name := "contains", desc := "(Ljava/lang/Object;)Z" } : Jvm.MethodName)).before a0 Z = true := hw _ (List.mem_of_getElem? (i := 102) rfl)
theorem w103 {Z : State} {a0 : Array Value} (hw : ∀ d ∈ tables_1, d.before a0 Z = true) : (Jvm.Cond.declares ({ cls := "java/util/Set", name := "contains", desc := "(Ljava/lang/Object;)Z" } : Jvm.MethodName)).before a0 Z = true := hw _ (List.mem_of_getElem? (i := 103) rfl)
theorem w104 {Z : State} {a0 : Array Value} (hw : ∀ d ∈ tables_1, d.before a0 Z = true) : (Jvm.Cond.interfaceMethod "java/util/Set" "java/util/Set" "contains" "(Ljava/lang/Object;)Z").before a0 Z = true := hw _ (List.mem_of_getElem? (i := 104) rfl)
theorem w105 {Z : State} {a0 : Array Value} (hw : ∀ d ∈ tables_1, d.before a0 Z = true) : (Jvm.Cond.selects "java/util/ImmutableCollections$SetN" ({ cls := "java/util/Set", name := "contains", desc := "(Ljava/lang/Object;)Z" } : Jvm.MethodName) ({ cls := "java/util/ImmutableCollections$SetN", name := "contains", desc := "(Ljava/lang/Object;)Z" } : Jvm.MethodName)).before a0 Z = true := hw _ (List.mem_of_getElem? (i := 105) rfl)
theorem w106 {Z : State} {a0 : Array Value} (hw : ∀ d ∈ tables_1, d.before a0 Z = true) : (Jvm.Cond.instanceMethod ({ cls := "java/util/ImmutableCollections$SetN", name := "contains", desc := "(Ljava/lang/Object;)Z" } : Jvm.MethodName)).before a0 Z = true := hw _ (List.mem_of_getElem? (i := 106) rfl)
theorem w107 {Z : State} {a0 : Array Value} (hw : ∀ d ∈ tables_1, d.before a0 Z = true) : (Jvm.Cond.publicMethod ({ cls := "java/util/ImmutableCollections$SetN", name := "contains", desc := "(Ljava/lang/Object;)Z" } : Jvm.MethodName)).before a0 Z = true := hw _ (List.mem_of_getElem? (i := 107) rfl)
theorem w108 {Z : State} {a0 : Array Value} (hw : ∀ d ∈ tables_1, d.before a0 Z = true) : (Jvm.Cond.unhidden "java/util/ImmutableCollections$SetN" "contains" "(Ljava/lang/Object;)Z").before a0 Z = true := hw _ (List.mem_of_getElem? (i := 108) rfl)
theorem w109 {Z : State} {a0 : Array Value} (hw : ∀ d ∈ tables_1, d.before a0 Z = true) : (Jvm.Cond.castable "java/util/ImmutableCollections$SetN" "java/util/Set").before a0 Z = true := hw _ (List.mem_of_getElem? (i := 109) rfl)
theorem w110 {Z : State} {a0 : Array Value} (hw : ∀ d ∈ tables_1, d.before a0 Z = true) : (Jvm.Cond.initialized "java/util/ImmutableCollections$SetN").before a0 Z = true := hw _ (List.mem_of_getElem? (i := 110) rfl)
theorem w111 {Z : State} {a0 : Array Value} (hw : ∀ d ∈ tables_1, d.before a0 Z = true) : (Jvm.Cond.code ({ cls := "java/util/ImmutableCollections$SetN", name := "contains", desc := "(Ljava/lang/Object;)Z" } : Jvm.MethodName) jdk_132_method_4_code (2 : Nat) (Option.some Jvm.ClassFile.FieldType.boolean)).before a0 Z = true := hw _ (List.mem_of_getElem? (i := 111) rfl)
theorem w112 {Z : State} {a0 : Array Value} (hw : ∀ d ∈ tables_1, d.before a0 Z = true) : (Jvm.Cond.methodLink "java/util/ImmutableCollections$SetN" (46 : Nat) ({ cls := "java/util/Objects", name := "requireNonNull", desc := "(Ljava/lang/Object;)Ljava/lang/Object;" } : Jvm.MethodName)).before a0 Z = true := hw _ (List.mem_of_getElem? (i := 112) rfl)
theorem w113 {Z : State} {a0 : Array Value} (hw : ∀ d ∈ tables_1, d.before a0 Z = true) : (Jvm.Cond.static ({ cls := "java/util/Objects", name := "requireNonNull", desc := "(Ljava/lang/Object;)Ljava/lang/Object;" } : Jvm.MethodName)).before a0 Z = true := hw _ (List.mem_of_getElem? (i := 113) rfl)
theorem w114 {Z : State} {a0 : Array Value} (hw : ∀ d ∈ tables_1, d.before a0 Z = true) : (Jvm.Cond.code ({ cls := "java/util/Objects", name := "requireNonNull", desc := "(Ljava/lang/Object;)Ljava/lang/Object;" } : Jvm.MethodName) jdk_31_method_10_code (1 : Nat) (Option.some (Jvm.ClassFile.FieldType.object "java/lang/Object"))).before a0 Z = true := hw _ (List.mem_of_getElem? (i := 114) rfl)
theorem w115 {Z : State} {a0 : Array Value} (hw : ∀ d ∈ tables_1, d.before a0 Z = true) : (Jvm.Cond.fieldLink "java/util/ImmutableCollections$SetN" (9 : Nat) "java/util/ImmutableCollections$SetN" "size" "I").before a0 Z = true := hw _ (List.mem_of_getElem? (i := 115) rfl)
theorem w117 {Z : State} {a0 : Array Value} (hw : ∀ d ∈ tables_1, d.before a0 Z = true) : (Jvm.Cond.methodLink "com/example/gate_authz/gateauthz/core/CallerInvalidTokenPinLaw" (46 : Nat) ({ cls := "com/example/gate_authz/gateauthz/core/Caller", name := "hasRole", desc := "(Ljava/lang/String;)Z" } : Jvm.MethodName)).before a0 Z = true := hw _ (List.mem_of_getElem? (i := 117) rfl)
theorem w118 {Z : State} {a0 : Array Value} (hw : ∀ d ∈ tables_1, d.before a0 Z = true) : (Jvm.Cond.declares ({ cls := "com/example/gate_authz/gateauthz/core/Caller", name := "hasRole", desc := "(Ljava/lang/String;)Z" } : Jvm.MethodName)).before a0 Z = true := hw _ (List.mem_of_getElem? (i := 118) rfl)
theorem w119 {Z : State} {a0 : Array Value} (hw : ∀ d ∈ tables_1, d.before a0 Z = true) : (Jvm.Cond.instanceMethod ({ cls := "com/example/gate_authz/gateauthz/core/Caller", name := "hasRole", desc := "(Ljava/lang/String;)Z" } : Jvm.MethodName)).before a0 Z = true := hw _ (List.mem_of_getElem? (i := 119) rfl)
theorem w120 {Z : State} {a0 : Array Value} (hw : ∀ d ∈ tables_1, d.before a0 Z = true) : (Jvm.Cond.selects "com/example/gate_authz/gateauthz/core/Caller" ({ cls := "com/example/gate_authz/gateauthz/core/Caller", name := "hasRole", desc := "(Ljava/lang/String;)Z" } : Jvm.MethodName) ({ cls := "com/example/gate_authz/gateauthz/core/Caller", name := "hasRole", desc := "(Ljava/lang/String;)Z" } : Jvm.MethodName)).before a0 Z = true := hw _ (List.mem_of_getElem? (i := 120) rfl)
theorem w121 {Z : State} {a0 : Array Value} (hw : ∀ d ∈ tables_1, d.before a0 Z = true) : (Jvm.Cond.code ({ cls := "com/example/gate_authz/gateauthz/core/Caller", name := "hasRole", desc := "(Ljava/lang/String;)Z" } : Jvm.MethodName) prog_2_method_20_code (2 : Nat) (Option.some Jvm.ClassFile.FieldType.boolean)).before a0 Z = true := hw _ (List.mem_of_getElem? (i := 121) rfl)
theorem w122 {Z : State} {a0 : Array Value} (hw : ∀ d ∈ tables_1, d.before a0 Z = true) : (Jvm.Cond.methodLink "com/example/gate_authz/gateauthz/core/CallerInvalidTokenPinLaw" (52 : Nat) ({ cls := "java/lang/String", name := "valueOf", desc := "(C)Ljava/lang/String;" } : Jvm.MethodName)).before a0 Z = true := hw _ (List.mem_of_getElem? (i := 122) rfl)
theorem w123 {Z : State} {a0 : Array Value} (hw : ∀ d ∈ tables_1, d.before a0 Z = true) : (Jvm.Cond.static ({ cls := "java/lang/String", name := "valueOf", desc := "(C)Ljava/lang/String;" } : Jvm.MethodName)).before a0 Z = true := hw _ (List.mem_of_getElem? (i := 123) rfl)
theorem w124 {Z : State} {a0 : Array Value} (hw : ∀ d ∈ tables_1, d.before a0 Z = true) : (Jvm.Cond.code ({ cls := "java/lang/String", name := "valueOf", desc := "(C)Ljava/lang/String;" } : Jvm.MethodName) jdk_42_method_139_code (1 : Nat) (Option.some (Jvm.ClassFile.FieldType.object "java/lang/String"))).before a0 Z = true := hw _ (List.mem_of_getElem? (i := 124) rfl)
theorem w125 {Z : State} {a0 : Array Value} (hw : ∀ d ∈ tables_1, d.before a0 Z = true) : (Jvm.Cond.fieldLink "java/lang/String" (38 : Nat) "java/lang/String" "COMPACT_STRINGS" "Z").before a0 Z = true := hw _ (List.mem_of_getElem? (i := 125) rfl)
theorem w126 {Z : State} {a0 : Array Value} (hw : ∀ d ∈ tables_1, d.before a0 Z = true) : (Jvm.Cond.methodLink "java/lang/String" (1015 : Nat) ({ cls := "java/lang/StringLatin1", name := "canEncode", desc := "(C)Z" } : Jvm.MethodName)).before a0 Z = true := hw _ (List.mem_of_getElem? (i := 126) rfl)
theorem w127 {Z : State} {a0 : Array Value} (hw : ∀ d ∈ tables_1, d.before a0 Z = true) : (Jvm.Cond.static ({ cls := "java/lang/StringLatin1", name := "canEncode", desc := "(C)Z" } : Jvm.MethodName)).before a0 Z = true := hw _ (List.mem_of_getElem? (i := 127) rfl)
theorem w128 {Z : State} {a0 : Array Value} (hw : ∀ d ∈ tables_1, d.before a0 Z = true) : (Jvm.Cond.initialized "java/lang/StringLatin1").before a0 Z = true := hw _ (List.mem_of_getElem? (i := 128) rfl)
theorem w129 {Z : State} {a0 : Array Value} (hw : ∀ d ∈ tables_1, d.before a0 Z = true) : (Jvm.Cond.code ({ cls := "java/lang/StringLatin1", name := "canEncode", desc := "(C)Z" } : Jvm.MethodName) jdk_43_method_3_code (1 : Nat) (Option.some Jvm.ClassFile.FieldType.boolean)).before a0 Z = true := hw _ (List.mem_of_getElem? (i := 129) rfl)
theorem w130 {Z : State} {a0 : Array Value} (hw : ∀ d ∈ tables_1, d.before a0 Z = true) : (Jvm.Cond.classLink "java/lang/String" (10 : Nat) "java/lang/String").before a0 Z = true := hw _ (List.mem_of_getElem? (i := 130) rfl)
theorem w131 {Z : State} {a0 : Array Value} (hw : ∀ d ∈ tables_1, d.before a0 Z = true) : (Jvm.Cond.methodLink "java/lang/String" (1018 : Nat) ({ cls := "java/lang/StringLatin1", name := "toBytes", desc := "(C)[B" } : Jvm.MethodName)).before a0 Z = true := hw _ (List.mem_of_getElem? (i := 131) rfl)
theorem w132 {Z : State} {a0 : Array Value} (hw : ∀ d ∈ tables_1, d.before a0 Z = true) : (Jvm.Cond.static ({ cls := "java/lang/StringLatin1", name := "toBytes", desc := "(C)[B" } : Jvm.MethodName)).before a0 Z = true := hw _ (List.mem_of_getElem? (i := 132) rfl)
theorem w133 {Z : State} {a0 : Array Value} (hw : ∀ d ∈ tables_1, d.before a0 Z = true) : (Jvm.Cond.code ({ cls := "java/lang/StringLatin1", name := "toBytes", desc := "(C)[B" } : Jvm.MethodName) jdk_43_method_46_code (1 : Nat) (Option.some (Jvm.ClassFile.FieldType.array Jvm.ClassFile.FieldType.byte))).before a0 Z = true := hw _ (List.mem_of_getElem? (i := 133) rfl)
theorem w134 {Z : State} {a0 : Array Value} (hw : ∀ d ∈ tables_1, d.before a0 Z = true) : (Jvm.Cond.methodLink "java/lang/String" (209 : Nat) ({ cls := "java/lang/String", name := "<init>", desc := "([BB)V" } : Jvm.MethodName)).before a0 Z = true := hw _ (List.mem_of_getElem? (i := 134) rfl)
theorem w135 {Z : State} {a0 : Array Value} (hw : ∀ d ∈ tables_1, d.before a0 Z = true) : (Jvm.Cond.instanceMethod ({ cls := "java/lang/String", name := "<init>", desc := "([BB)V" } : Jvm.MethodName)).before a0 Z = true := hw _ (List.mem_of_getElem? (i := 135) rfl)
theorem w136 {Z : State} {a0 : Array Value} (hw : ∀ d ∈ tables_1, d.before a0 Z = true) : (Jvm.Cond.code ({ cls := "java/lang/String", name := "<init>", desc := "([BB)V" } : Jvm.MethodName) jdk_42_method_151_code (3 : Nat) (Option.none : Option Jvm.ClassFile.FieldType)).before a0 Z = true := hw _ (List.mem_of_getElem? (i := 136) rfl)
theorem w137 {Z : State} {a0 : Array Value} (hw : ∀ d ∈ tables_1, d.before a0 Z = true) : (Jvm.Cond.methodLink "java/lang/String" (177 : Nat) ({ cls := "java/lang/StringUTF16", name := "compress", desc := "([CII)[B" } : Jvm.MethodName)).before a0 Z = true := hw _ (List.mem_of_getElem? (i := 137) rfl)
theorem w138 {Z : State} {a0 : Array Value} (hw : ∀ d ∈ tables_1, d.before a0 Z = true) : (Jvm.Cond.static ({ cls := "java/lang/StringUTF16", name := "compress", desc := "([CII)[B" } : Jvm.MethodName)).before a0 Z = true := hw _ (List.mem_of_getElem? (i := 138) rfl)
theorem w139 {Z : State} {a0 : Array Value} (hw : ∀ d ∈ tables_1, d.before a0 Z = true) : (Jvm.Cond.initialized "java/lang/StringUTF16").before a0 Z = true := hw _ (List.mem_of_getElem? (i := 139) rfl)
theorem w140 {Z : State} {a0 : Array Value} (hw : ∀ d ∈ tables_1, d.before a0 Z = true) : (Jvm.Cond.code ({ cls := "java/lang/StringUTF16", name := "compress", desc := "([CII)[B" } : Jvm.MethodName) jdk_52_method_16_code (6 : Nat) (Option.some (Jvm.ClassFile.FieldType.array Jvm.ClassFile.FieldType.byte))).before a0 Z = true := hw _ (List.mem_of_getElem? (i := 140) rfl)
theorem w141 {Z : State} {a0 : Array Value} (hw : ∀ d ∈ tables_1, d.before a0 Z = true) : (Jvm.Cond.methodLink "java/lang/StringUTF16" (115 : Nat) ({ cls := "java/lang/StringUTF16", name := "compress", desc := "([CI[BII)I" } : Jvm.MethodName)).before a0 Z = true := hw _ (List.mem_of_getElem? (i := 141) rfl)
theorem w142 {Z : State} {a0 : Array Value} (hw : ∀ d ∈ tables_1, d.before a0 Z = true) : (Jvm.Cond.static ({ cls := "java/lang/StringUTF16", name := "compress", desc := "([CI[BII)I" } : Jvm.MethodName)).before a0 Z = true := hw _ (List.mem_of_getElem? (i := 142) rfl)
theorem w143 {Z : State} {a0 : Array Value} (hw : ∀ d ∈ tables_1, d.before a0 Z = true) : (Jvm.Cond.code ({ cls := "java/lang/StringUTF16", name := "compress", desc := "([CI[BII)I" } : Jvm.MethodName) jdk_52_method_21_code (7 : Nat) (Option.some Jvm.ClassFile.FieldType.int)).before a0 Z = true := hw _ (List.mem_of_getElem? (i := 143) rfl)
theorem w144 {Z : State} {a0 : Array Value} (hw : ∀ d ∈ tables_1, d.before a0 Z = true) : (Jvm.Cond.methodLink "java/lang/String" (47 : Nat) ({ cls := "java/lang/StringUTF16", name := "coderFromArrayLen", desc := "([BI)B" } : Jvm.MethodName)).before a0 Z = true := hw _ (List.mem_of_getElem? (i := 144) rfl)
theorem w145 {Z : State} {a0 : Array Value} (hw : ∀ d ∈ tables_1, d.before a0 Z = true) : (Jvm.Cond.static ({ cls := "java/lang/StringUTF16", name := "coderFromArrayLen", desc := "([BI)B" } : Jvm.MethodName)).before a0 Z = true := hw _ (List.mem_of_getElem? (i := 145) rfl)
theorem w146 {Z : State} {a0 : Array Value} (hw : ∀ d ∈ tables_1, d.before a0 Z = true) : (Jvm.Cond.code ({ cls := "java/lang/StringUTF16", name := "coderFromArrayLen", desc := "([BI)B" } : Jvm.MethodName) jdk_52_method_15_code (2 : Nat) (Option.some Jvm.ClassFile.FieldType.byte)).before a0 Z = true := hw _ (List.mem_of_getElem? (i := 146) rfl)
theorem pd0 : parseMethodDescriptor "([CI[BII)I" = some ⟨[(.array .char), .int, (.array .byte), .int, .int], some .int⟩ := by decide +kernel
theorem pd1 : parseMethodDescriptor "([CII)[B" = some ⟨[(.array .char), .int, .int], some (.array .byte)⟩ := by decide +kernel
theorem pd2 : parseMethodDescriptor "([BI)B" = some ⟨[(.array .byte), .int], some .byte⟩ := by decide +kernel
theorem pd3 : parseMethodDescriptor "([CIILjava/lang/Void;)V" = some ⟨[(.array .char), .int, .int, (.object "java/lang/Void")], none⟩ := by decide +kernel
theorem pd4 : parseMethodDescriptor "(C)Z" = some ⟨[.char], some .boolean⟩ := by decide +kernel
theorem pd5 : parseMethodDescriptor "(C)[B" = some ⟨[.char], some (.array .byte)⟩ := by decide +kernel
theorem pd6 : parseMethodDescriptor "([BB)V" = some ⟨[(.array .byte), .byte], none⟩ := by decide +kernel
theorem pd7 : parseMethodDescriptor "([C)V" = some ⟨[(.array .char)], none⟩ := by decide +kernel
theorem pd8 : parseMethodDescriptor "(C)Ljava/lang/String;" = some ⟨[.char], some (.object "java/lang/String")⟩ := by decide +kernel
theorem pd9 : parseMethodDescriptor "()Ljava/util/Set;" = some ⟨[], some (.object "java/util/Set")⟩ := by decide +kernel
theorem pd10 : parseMethodDescriptor "()Ljava/util/Map;" = some ⟨[], some (.object "java/util/Map")⟩ := by decide +kernel
theorem pd11 : parseMethodDescriptor "(Ljava/lang/Object;Ljava/lang/String;)Ljava/lang/Object;" = some ⟨[(.object "java/lang/Object"), (.object "java/lang/String")], some (.object "java/lang/Object")⟩ := by decide +kernel
theorem pd12 : parseMethodDescriptor "(Ljava/lang/String;)V" = some ⟨[(.object "java/lang/String")], none⟩ := by decide +kernel
theorem pd13 : parseMethodDescriptor "(Ljava/lang/Object;)Ljava/lang/Object;" = some ⟨[(.object "java/lang/Object")], some (.object "java/lang/Object")⟩ := by decide +kernel
theorem pd14 : parseMethodDescriptor "(Ljava/lang/Object;)Z" = some ⟨[(.object "java/lang/Object")], some .boolean⟩ := by decide +kernel
theorem pd15 : parseMethodDescriptor "(IIII)Ljava/lang/String;" = some ⟨[.int, .int, .int, .int], some (.object "java/lang/String")⟩ := by decide +kernel
theorem pd16 : parseMethodDescriptor "(Ljava/lang/String;)Lcom/example/gate_authz/gateauthz/core/Caller;" = some ⟨[(.object "java/lang/String")], some (.object "com/example/gate_authz/gateauthz/core/Caller")⟩ := by decide +kernel
theorem pd17 : parseMethodDescriptor "()Ljava/lang/String;" = some ⟨[], some (.object "java/lang/String")⟩ := by decide +kernel
theorem pd18 : parseMethodDescriptor "()Z" = some ⟨[], some .boolean⟩ := by decide +kernel
theorem pd19 : parseMethodDescriptor "(Ljava/lang/String;)Z" = some ⟨[(.object "java/lang/String")], some .boolean⟩ := by decide +kernel
theorem dcmp5_0 : decode jdk_52_method_21_code 0 = .ok (.iconst 0, 1) := by decide +kernel
theorem dcmp5_1 : decode jdk_52_method_21_code 1 = .ok (.istore 5, 2) := by decide +kernel
theorem dcmp5_3 : decode jdk_52_method_21_code 3 = .ok (.iload 5, 2) := by decide +kernel
theorem dcmp5_5 : decode jdk_52_method_21_code 5 = .ok (.iload 4, 2) := by decide +kernel
theorem dcmp5_7 : decode jdk_52_method_21_code 7 = .ok (.if_icmp .ge 37, 3) := by decide +kernel
theorem dcmp5_10 : decode jdk_52_method_21_code 10 = .ok (.aload_n 0, 1) := by decide +kernel
theorem dcmp5_11 : decode jdk_52_method_21_code 11 = .ok (.iload_n 1, 1) := by decide +kernel
theorem dcmp5_12 : decode jdk_52_method_21_code 12 = .ok (.caload, 1) := by decide +kernel
theorem dcmp5_13 : decode jdk_52_method_21_code 13 = .ok (.istore 6, 2) := by decide +kernel
theorem dcmp5_15 : decode jdk_52_method_21_code 15 = .ok (.iload 6, 2) := by decide +kernel
theorem dcmp5_17 : decode jdk_52_method_21_code 17 = .ok (.sipush 255, 3) := by decide +kernel
theorem dcmp5_20 : decode jdk_52_method_21_code 20 = .ok (.if_icmp .le 6, 3) := by decide +kernel
theorem dcmp5_23 : decode jdk_52_method_21_code 23 = .ok (.iload 5, 2) := by decide +kernel
theorem dcmp5_25 : decode jdk_52_method_21_code 25 = .ok (.ireturn, 1) := by decide +kernel
theorem dcmp5_26 : decode jdk_52_method_21_code 26 = .ok (.aload_n 2, 1) := by decide +kernel
theorem dcmp5_27 : decode jdk_52_method_21_code 27 = .ok (.iload_n 3, 1) := by decide +kernel
theorem dcmp5_28 : decode jdk_52_method_21_code 28 = .ok (.iload 6, 2) := by decide +kernel
theorem dcmp5_30 : decode jdk_52_method_21_code 30 = .ok (.i2b, 1) := by decide +kernel
theorem dcmp5_31 : decode jdk_52_method_21_code 31 = .ok (.bastore, 1) := by decide +kernel
theorem dcmp5_32 : decode jdk_52_method_21_code 32 = .ok (.iinc 1 1, 3) := by decide +kernel
theorem dcmp5_35 : decode jdk_52_method_21_code 35 = .ok (.iinc 3 1, 3) := by decide +kernel
theorem dcmp5_38 : decode jdk_52_method_21_code 38 = .ok (.iinc 5 1, 3) := by decide +kernel
theorem dcmp5_41 : decode jdk_52_method_21_code 41 = .ok (.goto (-38), 3) := by decide +kernel
theorem dcmp5_44 : decode jdk_52_method_21_code 44 = .ok (.iload 4, 2) := by decide +kernel
theorem dcmp5_46 : decode jdk_52_method_21_code 46 = .ok (.ireturn, 1) := by decide +kernel
abbrev bcmp5 : wkB := (⟨"java/lang/StringUTF16", "compress", "([CI[BII)I"⟩, jdk_52_method_21_code, 7, (some .int))
theorem dcodL_0 : decode jdk_52_method_15_code 0 = .ok (.iload_n 1, 1) := by decide +kernel
theorem dcodL_1 : decode jdk_52_method_15_code 1 = .ok (.aload_n 0, 1) := by decide +kernel
theorem dcodL_2 : decode jdk_52_method_15_code 2 = .ok (.arraylength, 1) := by decide +kernel
theorem dcodL_3 : decode jdk_52_method_15_code 3 = .ok (.isub, 1) := by decide +kernel
theorem dcodL_4 : decode jdk_52_method_15_code 4 = .ok (.bipush 31, 2) := by decide +kernel
theorem dcodL_6 : decode jdk_52_method_15_code 6 = .ok (.iushr, 1) := by decide +kernel
theorem dcodL_7 : decode jdk_52_method_15_code 7 = .ok (.i2b, 1) := by decide +kernel
theorem dcodL_8 : decode jdk_52_method_15_code 8 = .ok (.ireturn, 1) := by decide +kernel
abbrev bcodL : wkB := (⟨"java/lang/StringUTF16", "coderFromArrayLen", "([BI)B"⟩, jdk_52_method_15_code, 2, (some .byte))
theorem dcmp3_0 : decode jdk_52_method_16_code 0 = .ok (.iload_n 2, 1) := by decide +kernel
theorem dcmp3_1 : decode jdk_52_method_16_code 1 = .ok (.newarray .byte, 2) := by decide +kernel
theorem dcmp3_3 : decode jdk_52_method_16_code 3 = .ok (.astore_n 3, 1) := by decide +kernel
theorem dcmp3_4 : decode jdk_52_method_16_code 4 = .ok (.aload_n 0, 1) := by decide +kernel
theorem dcmp3_5 : decode jdk_52_method_16_code 5 = .ok (.iload_n 1, 1) := by decide +kernel
theorem dcmp3_6 : decode jdk_52_method_16_code 6 = .ok (.aload_n 3, 1) := by decide +kernel
theorem dcmp3_7 : decode jdk_52_method_16_code 7 = .ok (.iconst 0, 1) := by decide +kernel
theorem dcmp3_8 : decode jdk_52_method_16_code 8 = .ok (.iload_n 2, 1) := by decide +kernel
theorem dcmp3_9 : decode jdk_52_method_16_code 9 = .ok (.invokestatic 115, 3) := by decide +kernel
theorem dcmp3_12 : decode jdk_52_method_16_code 12 = .ok (.istore 4, 2) := by decide +kernel
theorem dcmp3_14 : decode jdk_52_method_16_code 14 = .ok (.iload 4, 2) := by decide +kernel
theorem dcmp3_16 : decode jdk_52_method_16_code 16 = .ok (.iload_n 2, 1) := by decide +kernel
theorem dcmp3_17 : decode jdk_52_method_16_code 17 = .ok (.if_icmp .eq 40, 3) := by decide +kernel
theorem dcmp3_57 : decode jdk_52_method_16_code 57 = .ok (.aload_n 3, 1) := by decide +kernel
theorem dcmp3_58 : decode jdk_52_method_16_code 58 = .ok (.areturn, 1) := by decide +kernel
abbrev bcmp3 : wkB := (⟨"java/lang/StringUTF16", "compress", "([CII)[B"⟩, jdk_52_method_16_code, 6, (some (.array .byte)))
theorem dinit4_0 : decode jdk_42_method_149_code 0 = .ok (.aload_n 0, 1) := by decide +kernel
theorem dinit4_1 : decode jdk_42_method_149_code 1 = .ok (.invokespecial 1, 3) := by decide +kernel
theorem dinit4_4 : decode jdk_42_method_149_code 4 = .ok (.iload_n 3, 1) := by decide +kernel
theorem dinit4_5 : decode jdk_42_method_149_code 5 = .ok (.ifCond .ne 22, 3) := by decide +kernel
theorem dinit4_8 : decode jdk_42_method_149_code 8 = .ok (.aload_n 0, 1) := by decide +kernel
theorem dinit4_9 : decode jdk_42_method_149_code 9 = .ok (.ldc 7, 2) := by decide +kernel
theorem dinit4_11 : decode jdk_42_method_149_code 11 = .ok (.getfield 9, 3) := by decide +kernel
theorem dinit4_14 : decode jdk_42_method_149_code 14 = .ok (.putfield 9, 3) := by decide +kernel
theorem dinit4_17 : decode jdk_42_method_149_code 17 = .ok (.aload_n 0, 1) := by decide +kernel
theorem dinit4_18 : decode jdk_42_method_149_code 18 = .ok (.ldc 7, 2) := by decide +kernel
theorem dinit4_20 : decode jdk_42_method_149_code 20 = .ok (.getfield 15, 3) := by decide +kernel
theorem dinit4_23 : decode jdk_42_method_149_code 23 = .ok (.putfield 15, 3) := by decide +kernel
theorem dinit4_26 : decode jdk_42_method_149_code 26 = .ok (.return_, 1) := by decide +kernel
theorem dinit4_27 : decode jdk_42_method_149_code 27 = .ok (.getstatic 38, 3) := by decide +kernel
theorem dinit4_30 : decode jdk_42_method_149_code 30 = .ok (.ifCond .eq 28, 3) := by decide +kernel
theorem dinit4_33 : decode jdk_42_method_149_code 33 = .ok (.aload_n 1, 1) := by decide +kernel
theorem dinit4_34 : decode jdk_42_method_149_code 34 = .ok (.iload_n 2, 1) := by decide +kernel
theorem dinit4_35 : decode jdk_42_method_149_code 35 = .ok (.iload_n 3, 1) := by decide +kernel
theorem dinit4_36 : decode jdk_42_method_149_code 36 = .ok (.invokestatic 177, 3) := by decide +kernel
theorem dinit4_39 : decode jdk_42_method_149_code 39 = .ok (.astore 5, 2) := by decide +kernel
theorem dinit4_41 : decode jdk_42_method_149_code 41 = .ok (.aload_n 0, 1) := by decide +kernel
theorem dinit4_42 : decode jdk_42_method_149_code 42 = .ok (.aload 5, 2) := by decide +kernel
theorem dinit4_44 : decode jdk_42_method_149_code 44 = .ok (.iload_n 3, 1) := by decide +kernel
theorem dinit4_45 : decode jdk_42_method_149_code 45 = .ok (.invokestatic 47, 3) := by decide +kernel
theorem dinit4_48 : decode jdk_42_method_149_code 48 = .ok (.putfield 15, 3) := by decide +kernel
theorem dinit4_51 : decode jdk_42_method_149_code 51 = .ok (.aload_n 0, 1) := by decide +kernel
theorem dinit4_52 : decode jdk_42_method_149_code 52 = .ok (.aload 5, 2) := by decide +kernel
theorem dinit4_54 : decode jdk_42_method_149_code 54 = .ok (.putfield 9, 3) := by decide +kernel
theorem dinit4_57 : decode jdk_42_method_149_code 57 = .ok (.return_, 1) := by decide +kernel
abbrev binit4 : wkB := (⟨"java/lang/String", "<init>", "([CIILjava/lang/Void;)V"⟩, jdk_42_method_149_code, 6, none)
theorem dinit1_0 : decode jdk_42_method_3_code 0 = .ok (.aload_n 0, 1) := by decide +kernel
theorem dinit1_1 : decode jdk_42_method_3_code 1 = .ok (.aload_n 1, 1) := by decide +kernel
theorem dinit1_2 : decode jdk_42_method_3_code 2 = .ok (.iconst 0, 1) := by decide +kernel
theorem dinit1_3 : decode jdk_42_method_3_code 3 = .ok (.aload_n 1, 1) := by decide +kernel
theorem dinit1_4 : decode jdk_42_method_3_code 4 = .ok (.arraylength, 1) := by decide +kernel
theorem dinit1_5 : decode jdk_42_method_3_code 5 = .ok (.aconst_null, 1) := by decide +kernel
theorem dinit1_6 : decode jdk_42_method_3_code 6 = .ok (.invokespecial 27, 3) := by decide +kernel
theorem dinit1_9 : decode jdk_42_method_3_code 9 = .ok (.return_, 1) := by decide +kernel
abbrev binit1 : wkB := (⟨"java/lang/String", "<init>", "([C)V"⟩, jdk_42_method_3_code, 2, none)
theorem dcanE_0 : decode jdk_43_method_3_code 0 = .ok (.iload_n 0, 1) := by decide +kernel
theorem dcanE_1 : decode jdk_43_method_3_code 1 = .ok (.sipush 255, 3) := by decide +kernel
theorem dcanE_4 : decode jdk_43_method_3_code 4 = .ok (.if_icmp .gt 7, 3) := by decide +kernel
theorem dcanE_7 : decode jdk_43_method_3_code 7 = .ok (.iconst 1, 1) := by decide +kernel
theorem dcanE_8 : decode jdk_43_method_3_code 8 = .ok (.goto 4, 3) := by decide +kernel
theorem dcanE_12 : decode jdk_43_method_3_code 12 = .ok (.ireturn, 1) := by decide +kernel
abbrev bcanE : wkB := (⟨"java/lang/StringLatin1", "canEncode", "(C)Z"⟩, jdk_43_method_3_code, 1, (some .boolean))
theorem dtoB_0 : decode jdk_43_method_46_code 0 = .ok (.iconst 1, 1) := by decide +kernel
theorem dtoB_1 : decode jdk_43_method_46_code 1 = .ok (.newarray .byte, 2) := by decide +kernel
theorem dtoB_3 : decode jdk_43_method_46_code 3 = .ok (.dup, 1) := by decide +kernel
theorem dtoB_4 : decode jdk_43_method_46_code 4 = .ok (.iconst 0, 1) := by decide +kernel
theorem dtoB_5 : decode jdk_43_method_46_code 5 = .ok (.iload_n 0, 1) := by decide +kernel
theorem dtoB_6 : decode jdk_43_method_46_code 6 = .ok (.i2b, 1) := by decide +kernel
theorem dtoB_7 : decode jdk_43_method_46_code 7 = .ok (.bastore, 1) := by decide +kernel
theorem dtoB_8 : decode jdk_43_method_46_code 8 = .ok (.areturn, 1) := by decide +kernel
abbrev btoB : wkB := (⟨"java/lang/StringLatin1", "toBytes", "(C)[B"⟩, jdk_43_method_46_code, 1, (some (.array .byte)))
theorem dinitBB_0 : decode jdk_42_method_151_code 0 = .ok (.aload_n 0, 1) := by decide +kernel
theorem dinitBB_1 : decode jdk_42_method_151_code 1 = .ok (.invokespecial 1, 3) := by decide +kernel
theorem dinitBB_4 : decode jdk_42_method_151_code 4 = .ok (.aload_n 0, 1) := by decide +kernel
theorem dinitBB_5 : decode jdk_42_method_151_code 5 = .ok (.aload_n 1, 1) := by decide +kernel
theorem dinitBB_6 : decode jdk_42_method_151_code 6 = .ok (.putfield 9, 3) := by decide +kernel
theorem dinitBB_9 : decode jdk_42_method_151_code 9 = .ok (.aload_n 0, 1) := by decide +kernel
theorem dinitBB_10 : decode jdk_42_method_151_code 10 = .ok (.iload_n 2, 1) := by decide +kernel
theorem dinitBB_11 : decode jdk_42_method_151_code 11 = .ok (.putfield 15, 3) := by decide +kernel
theorem dinitBB_14 : decode jdk_42_method_151_code 14 = .ok (.return_, 1) := by decide +kernel
abbrev binitBB : wkB := (⟨"java/lang/String", "<init>", "([BB)V"⟩, jdk_42_method_151_code, 3, none)
theorem dvalC_0 : decode jdk_42_method_139_code 0 = .ok (.getstatic 38, 3) := by decide +kernel
theorem dvalC_3 : decode jdk_42_method_139_code 3 = .ok (.ifCond .eq 23, 3) := by decide +kernel
theorem dvalC_6 : decode jdk_42_method_139_code 6 = .ok (.iload_n 0, 1) := by decide +kernel
theorem dvalC_7 : decode jdk_42_method_139_code 7 = .ok (.invokestatic 1015, 3) := by decide +kernel
theorem dvalC_10 : decode jdk_42_method_139_code 10 = .ok (.ifCond .eq 16, 3) := by decide +kernel
theorem dvalC_13 : decode jdk_42_method_139_code 13 = .ok (.new 10, 3) := by decide +kernel
theorem dvalC_16 : decode jdk_42_method_139_code 16 = .ok (.dup, 1) := by decide +kernel
theorem dvalC_17 : decode jdk_42_method_139_code 17 = .ok (.iload_n 0, 1) := by decide +kernel
theorem dvalC_18 : decode jdk_42_method_139_code 18 = .ok (.invokestatic 1018, 3) := by decide +kernel
theorem dvalC_21 : decode jdk_42_method_139_code 21 = .ok (.iconst 0, 1) := by decide +kernel
theorem dvalC_22 : decode jdk_42_method_139_code 22 = .ok (.invokespecial 209, 3) := by decide +kernel
theorem dvalC_25 : decode jdk_42_method_139_code 25 = .ok (.areturn, 1) := by decide +kernel
abbrev bvalC : wkB := (⟨"java/lang/String", "valueOf", "(C)Ljava/lang/String;"⟩, jdk_42_method_139_code, 1, (some (.object "java/lang/String")))
theorem dstr_0 : decode method_3_code 0 = .ok (.iload_n 0, 1) := by decide +kernel
theorem dstr_1 : decode method_3_code 1 = .ok (.iconst 3, 1) := by decide +kernel
theorem dstr_2 : decode method_3_code 2 = .ok (.iand, 1) := by decide +kernel
theorem dstr_3 : decode method_3_code 3 = .ok (.istore 4, 2) := by decide +kernel
theorem dstr_5 : decode method_3_code 5 = .ok (.iload_n 1, 1) := by decide +kernel
theorem dstr_6 : decode method_3_code 6 = .ok (.sipush 255, 3) := by decide +kernel
theorem dstr_9 : decode method_3_code 9 = .ok (.iand, 1) := by decide +kernel
theorem dstr_10 : decode method_3_code 10 = .ok (.i2c, 1) := by decide +kernel
theorem dstr_11 : decode method_3_code 11 = .ok (.istore 5, 2) := by decide +kernel
theorem dstr_13 : decode method_3_code 13 = .ok (.iload_n 2, 1) := by decide +kernel
theorem dstr_14 : decode method_3_code 14 = .ok (.sipush 255, 3) := by decide +kernel
theorem dstr_17 : decode method_3_code 17 = .ok (.iand, 1) := by decide +kernel
theorem dstr_18 : decode method_3_code 18 = .ok (.i2c, 1) := by decide +kernel
theorem dstr_19 : decode method_3_code 19 = .ok (.istore 6, 2) := by decide +kernel
theorem dstr_21 : decode method_3_code 21 = .ok (.iload_n 3, 1) := by decide +kernel
theorem dstr_22 : decode method_3_code 22 = .ok (.sipush 255, 3) := by decide +kernel
theorem dstr_25 : decode method_3_code 25 = .ok (.iand, 1) := by decide +kernel
theorem dstr_26 : decode method_3_code 26 = .ok (.i2c, 1) := by decide +kernel
theorem dstr_27 : decode method_3_code 27 = .ok (.istore 7, 2) := by decide +kernel
theorem dstr_29 : decode method_3_code 29 = .ok (.iload 4, 2) := by decide +kernel
theorem dstr_31 : decode method_3_code 31 = .ok (.ifCond .ne 14, 3) := by decide +kernel
theorem dstr_34 : decode method_3_code 34 = .ok (.new 24, 3) := by decide +kernel
theorem dstr_37 : decode method_3_code 37 = .ok (.dup, 1) := by decide +kernel
theorem dstr_38 : decode method_3_code 38 = .ok (.iconst 0, 1) := by decide +kernel
theorem dstr_39 : decode method_3_code 39 = .ok (.newarray .char, 2) := by decide +kernel
theorem dstr_41 : decode method_3_code 41 = .ok (.invokespecial 49, 3) := by decide +kernel
theorem dstr_44 : decode method_3_code 44 = .ok (.areturn, 1) := by decide +kernel
theorem dstr_45 : decode method_3_code 45 = .ok (.iload 4, 2) := by decide +kernel
theorem dstr_47 : decode method_3_code 47 = .ok (.iconst 1, 1) := by decide +kernel
theorem dstr_48 : decode method_3_code 48 = .ok (.if_icmp .ne 9, 3) := by decide +kernel
theorem dstr_51 : decode method_3_code 51 = .ok (.iload 5, 2) := by decide +kernel
theorem dstr_53 : decode method_3_code 53 = .ok (.invokestatic 52, 3) := by decide +kernel
theorem dstr_56 : decode method_3_code 56 = .ok (.areturn, 1) := by decide +kernel
theorem dstr_57 : decode method_3_code 57 = .ok (.iload 4, 2) := by decide +kernel
theorem dstr_59 : decode method_3_code 59 = .ok (.iconst 2, 1) := by decide +kernel
theorem dstr_60 : decode method_3_code 60 = .ok (.if_icmp .ne 24, 3) := by decide +kernel
theorem dstr_63 : decode method_3_code 63 = .ok (.new 24, 3) := by decide +kernel
theorem dstr_66 : decode method_3_code 66 = .ok (.dup, 1) := by decide +kernel
theorem dstr_67 : decode method_3_code 67 = .ok (.iconst 2, 1) := by decide +kernel
theorem dstr_68 : decode method_3_code 68 = .ok (.newarray .char, 2) := by decide +kernel
theorem dstr_70 : decode method_3_code 70 = .ok (.dup, 1) := by decide +kernel
theorem dstr_71 : decode method_3_code 71 = .ok (.iconst 0, 1) := by decide +kernel
theorem dstr_72 : decode method_3_code 72 = .ok (.iload 5, 2) := by decide +kernel
theorem dstr_74 : decode method_3_code 74 = .ok (.castore, 1) := by decide +kernel
theorem dstr_75 : decode method_3_code 75 = .ok (.dup, 1) := by decide +kernel
theorem dstr_76 : decode method_3_code 76 = .ok (.iconst 1, 1) := by decide +kernel
theorem dstr_77 : decode method_3_code 77 = .ok (.iload 6, 2) := by decide +kernel
theorem dstr_79 : decode method_3_code 79 = .ok (.castore, 1) := by decide +kernel
theorem dstr_80 : decode method_3_code 80 = .ok (.invokespecial 49, 3) := by decide +kernel
theorem dstr_83 : decode method_3_code 83 = .ok (.areturn, 1) := by decide +kernel
theorem dstr_84 : decode method_3_code 84 = .ok (.new 24, 3) := by decide +kernel
theorem dstr_87 : decode method_3_code 87 = .ok (.dup, 1) := by decide +kernel
theorem dstr_88 : decode method_3_code 88 = .ok (.iconst 3, 1) := by decide +kernel
theorem dstr_89 : decode method_3_code 89 = .ok (.newarray .char, 2) := by decide +kernel
theorem dstr_91 : decode method_3_code 91 = .ok (.dup, 1) := by decide +kernel
theorem dstr_92 : decode method_3_code 92 = .ok (.iconst 0, 1) := by decide +kernel
theorem dstr_93 : decode method_3_code 93 = .ok (.iload 5, 2) := by decide +kernel
theorem dstr_95 : decode method_3_code 95 = .ok (.castore, 1) := by decide +kernel
theorem dstr_96 : decode method_3_code 96 = .ok (.dup, 1) := by decide +kernel
theorem dstr_97 : decode method_3_code 97 = .ok (.iconst 1, 1) := by decide +kernel
theorem dstr_98 : decode method_3_code 98 = .ok (.iload 6, 2) := by decide +kernel
theorem dstr_100 : decode method_3_code 100 = .ok (.castore, 1) := by decide +kernel
theorem dstr_101 : decode method_3_code 101 = .ok (.dup, 1) := by decide +kernel
theorem dstr_102 : decode method_3_code 102 = .ok (.iconst 2, 1) := by decide +kernel
theorem dstr_103 : decode method_3_code 103 = .ok (.iload 7, 2) := by decide +kernel
theorem dstr_105 : decode method_3_code 105 = .ok (.castore, 1) := by decide +kernel
theorem dstr_106 : decode method_3_code 106 = .ok (.invokespecial 49, 3) := by decide +kernel
theorem dstr_109 : decode method_3_code 109 = .ok (.areturn, 1) := by decide +kernel
abbrev bstr : wkB := (⟨"com/example/gate_authz/gateauthz/core/CallerInvalidTokenPinLaw", "str", "(IIII)Ljava/lang/String;"⟩, method_3_code, 8, (some (.object "java/lang/String")))
theorem drnn_0 : decode jdk_31_method_11_code 0 = .ok (.aload_n 0, 1) := by decide +kernel
theorem drnn_1 : decode jdk_31_method_11_code 1 = .ok (.ifnonnull 12, 3) := by decide +kernel
theorem drnn_13 : decode jdk_31_method_11_code 13 = .ok (.aload_n 0, 1) := by decide +kernel
theorem drnn_14 : decode jdk_31_method_11_code 14 = .ok (.areturn, 1) := by decide +kernel
abbrev brnn : wkB := (⟨"java/util/Objects", "requireNonNull", "(Ljava/lang/Object;Ljava/lang/String;)Ljava/lang/Object;"⟩, jdk_31_method_11_code, 2, (some (.object "java/lang/Object")))
theorem drn1_0 : decode jdk_31_method_10_code 0 = .ok (.aload_n 0, 1) := by decide +kernel
theorem drn1_1 : decode jdk_31_method_10_code 1 = .ok (.ifnonnull 11, 3) := by decide +kernel
theorem drn1_12 : decode jdk_31_method_10_code 12 = .ok (.aload_n 0, 1) := by decide +kernel
theorem drn1_13 : decode jdk_31_method_10_code 13 = .ok (.areturn, 1) := by decide +kernel
abbrev brn1 : wkB := (⟨"java/util/Objects", "requireNonNull", "(Ljava/lang/Object;)Ljava/lang/Object;"⟩, jdk_31_method_10_code, 1, (some (.object "java/lang/Object")))
theorem dsof_0 : decode jdk_96_method_17_code 0 = .ok (.getstatic 9, 3) := by decide +kernel
theorem dsof_3 : decode jdk_96_method_17_code 3 = .ok (.areturn, 1) := by decide +kernel
abbrev bsof : wkB := (⟨"java/util/Set", "of", "()Ljava/util/Set;"⟩, jdk_96_method_17_code, 0, (some (.object "java/util/Set")))
theorem dmof_0 : decode jdk_72_method_26_code 0 = .ok (.getstatic 81, 3) := by decide +kernel
theorem dmof_3 : decode jdk_72_method_26_code 3 = .ok (.areturn, 1) := by decide +kernel
abbrev bmof : wkB := (⟨"java/util/Map", "of", "()Ljava/util/Map;"⟩, jdk_72_method_26_code, 0, (some (.object "java/util/Map")))
theorem dcaI_0 : decode prog_2_method_6_code 0 = .ok (.aload_n 0, 1) := by decide +kernel
theorem dcaI_1 : decode prog_2_method_6_code 1 = .ok (.invokespecial 16, 3) := by decide +kernel
theorem dcaI_4 : decode prog_2_method_6_code 4 = .ok (.aload_n 0, 1) := by decide +kernel
theorem dcaI_5 : decode prog_2_method_6_code 5 = .ok (.aconst_null, 1) := by decide +kernel
theorem dcaI_6 : decode prog_2_method_6_code 6 = .ok (.putfield 34, 3) := by decide +kernel
theorem dcaI_9 : decode prog_2_method_6_code 9 = .ok (.aload_n 0, 1) := by decide +kernel
theorem dcaI_10 : decode prog_2_method_6_code 10 = .ok (.aconst_null, 1) := by decide +kernel
theorem dcaI_11 : decode prog_2_method_6_code 11 = .ok (.putfield 38, 3) := by decide +kernel
theorem dcaI_14 : decode prog_2_method_6_code 14 = .ok (.aload_n 0, 1) := by decide +kernel
theorem dcaI_15 : decode prog_2_method_6_code 15 = .ok (.invokestatic 135, 3) := by decide +kernel
theorem dcaI_18 : decode prog_2_method_6_code 18 = .ok (.putfield 58, 3) := by decide +kernel
theorem dcaI_21 : decode prog_2_method_6_code 21 = .ok (.aload_n 0, 1) := by decide +kernel
theorem dcaI_22 : decode prog_2_method_6_code 22 = .ok (.invokestatic 135, 3) := by decide +kernel
theorem dcaI_25 : decode prog_2_method_6_code 25 = .ok (.putfield 67, 3) := by decide +kernel
theorem dcaI_28 : decode prog_2_method_6_code 28 = .ok (.aload_n 0, 1) := by decide +kernel
theorem dcaI_29 : decode prog_2_method_6_code 29 = .ok (.invokestatic 7, 3) := by decide +kernel
theorem dcaI_32 : decode prog_2_method_6_code 32 = .ok (.putfield 98, 3) := by decide +kernel
theorem dcaI_35 : decode prog_2_method_6_code 35 = .ok (.aload_n 0, 1) := by decide +kernel
theorem dcaI_36 : decode prog_2_method_6_code 36 = .ok (.aload_n 1, 1) := by decide +kernel
theorem dcaI_37 : decode prog_2_method_6_code 37 = .ok (.putfield 102, 3) := by decide +kernel
theorem dcaI_40 : decode prog_2_method_6_code 40 = .ok (.aload_n 0, 1) := by decide +kernel
theorem dcaI_41 : decode prog_2_method_6_code 41 = .ok (.aconst_null, 1) := by decide +kernel
theorem dcaI_42 : decode prog_2_method_6_code 42 = .ok (.putfield 105, 3) := by decide +kernel
theorem dcaI_45 : decode prog_2_method_6_code 45 = .ok (.return_, 1) := by decide +kernel
abbrev bcaI : wkB := (⟨"com/example/gate_authz/gateauthz/core/Caller", "<init>", "(Ljava/lang/String;)V"⟩, prog_2_method_6_code, 2, none)
theorem dinv_0 : decode prog_2_method_8_code 0 = .ok (.new 2, 3) := by decide +kernel
theorem dinv_3 : decode prog_2_method_8_code 3 = .ok (.dup, 1) := by decide +kernel
theorem dinv_4 : decode prog_2_method_8_code 4 = .ok (.aload_n 0, 1) := by decide +kernel
theorem dinv_5 : decode prog_2_method_8_code 5 = .ok (.ldc 141, 2) := by decide +kernel
theorem dinv_7 : decode prog_2_method_8_code 7 = .ok (.invokestatic 143, 3) := by decide +kernel
theorem dinv_10 : decode prog_2_method_8_code 10 = .ok (.checkcast 22, 3) := by decide +kernel
theorem dinv_13 : decode prog_2_method_8_code 13 = .ok (.invokespecial 146, 3) := by decide +kernel
theorem dinv_16 : decode prog_2_method_8_code 16 = .ok (.areturn, 1) := by decide +kernel
abbrev binv : wkB := (⟨"com/example/gate_authz/gateauthz/core/Caller", "invalidToken", "(Ljava/lang/String;)Lcom/example/gate_authz/gateauthz/core/Caller;"⟩, prog_2_method_8_code, 1, (some (.object "com/example/gate_authz/gateauthz/core/Caller")))
theorem dgTP_0 : decode prog_2_method_12_code 0 = .ok (.aload_n 0, 1) := by decide +kernel
theorem dgTP_1 : decode prog_2_method_12_code 1 = .ok (.getfield 102, 3) := by decide +kernel
theorem dgTP_4 : decode prog_2_method_12_code 4 = .ok (.areturn, 1) := by decide +kernel
abbrev bgTP : wkB := (⟨"com/example/gate_authz/gateauthz/core/Caller", "getTokenProblem", "()Ljava/lang/String;"⟩, prog_2_method_12_code, 1, (some (.object "java/lang/String")))
theorem dgUI_0 : decode prog_2_method_14_code 0 = .ok (.aload_n 0, 1) := by decide +kernel
theorem dgUI_1 : decode prog_2_method_14_code 1 = .ok (.getfield 34, 3) := by decide +kernel
theorem dgUI_4 : decode prog_2_method_14_code 4 = .ok (.areturn, 1) := by decide +kernel
abbrev bgUI : wkB := (⟨"com/example/gate_authz/gateauthz/core/Caller", "getUserId", "()Ljava/lang/String;"⟩, prog_2_method_14_code, 1, (some (.object "java/lang/String")))
theorem dgTI_0 : decode prog_2_method_15_code 0 = .ok (.aload_n 0, 1) := by decide +kernel
theorem dgTI_1 : decode prog_2_method_15_code 1 = .ok (.getfield 38, 3) := by decide +kernel
theorem dgTI_4 : decode prog_2_method_15_code 4 = .ok (.areturn, 1) := by decide +kernel
abbrev bgTI : wkB := (⟨"com/example/gate_authz/gateauthz/core/Caller", "getTenantId", "()Ljava/lang/String;"⟩, prog_2_method_15_code, 1, (some (.object "java/lang/String")))
theorem dgPP_0 : decode prog_2_method_13_code 0 = .ok (.aload_n 0, 1) := by decide +kernel
theorem dgPP_1 : decode prog_2_method_13_code 1 = .ok (.getfield 105, 3) := by decide +kernel
theorem dgPP_4 : decode prog_2_method_13_code 4 = .ok (.areturn, 1) := by decide +kernel
abbrev bgPP : wkB := (⟨"com/example/gate_authz/gateauthz/core/Caller", "getPermissionsProblem", "()Ljava/lang/String;"⟩, prog_2_method_13_code, 1, (some (.object "java/lang/String")))
theorem disA_0 : decode prog_2_method_11_code 0 = .ok (.aload_n 0, 1) := by decide +kernel
theorem disA_1 : decode prog_2_method_11_code 1 = .ok (.getfield 34, 3) := by decide +kernel
theorem disA_4 : decode prog_2_method_11_code 4 = .ok (.ifnull 7, 3) := by decide +kernel
theorem disA_11 : decode prog_2_method_11_code 11 = .ok (.iconst 0, 1) := by decide +kernel
theorem disA_12 : decode prog_2_method_11_code 12 = .ok (.ireturn, 1) := by decide +kernel
abbrev bisA : wkB := (⟨"com/example/gate_authz/gateauthz/core/Caller", "isAuthenticated", "()Z"⟩, prog_2_method_11_code, 1, (some .boolean))
theorem dcon_0 : decode jdk_132_method_4_code 0 = .ok (.aload_n 1, 1) := by decide +kernel
theorem dcon_1 : decode jdk_132_method_4_code 1 = .ok (.invokestatic 46, 3) := by decide +kernel
theorem dcon_4 : decode jdk_132_method_4_code 4 = .ok (.pop, 1) := by decide +kernel
theorem dcon_5 : decode jdk_132_method_4_code 5 = .ok (.aload_n 0, 1) := by decide +kernel
theorem dcon_6 : decode jdk_132_method_4_code 6 = .ok (.getfield 9, 3) := by decide +kernel
theorem dcon_9 : decode jdk_132_method_4_code 9 = .ok (.ifCond .le 15, 3) := by decide +kernel
theorem dcon_24 : decode jdk_132_method_4_code 24 = .ok (.iconst 0, 1) := by decide +kernel
theorem dcon_25 : decode jdk_132_method_4_code 25 = .ok (.ireturn, 1) := by decide +kernel
abbrev bcon : wkB := (⟨"java/util/ImmutableCollections$SetN", "contains", "(Ljava/lang/Object;)Z"⟩, jdk_132_method_4_code, 2, (some .boolean))
theorem dhP_0 : decode prog_2_method_19_code 0 = .ok (.aload_n 0, 1) := by decide +kernel
theorem dhP_1 : decode prog_2_method_19_code 1 = .ok (.getfield 58, 3) := by decide +kernel
theorem dhP_4 : decode prog_2_method_19_code 4 = .ok (.aload_n 1, 1) := by decide +kernel
theorem dhP_5 : decode prog_2_method_19_code 5 = .ok (.invokeinterface 153 2, 5) := by decide +kernel
theorem dhP_10 : decode prog_2_method_19_code 10 = .ok (.ireturn, 1) := by decide +kernel
abbrev bhP : wkB := (⟨"com/example/gate_authz/gateauthz/core/Caller", "hasPermission", "(Ljava/lang/String;)Z"⟩, prog_2_method_19_code, 2, (some .boolean))
theorem dhR_0 : decode prog_2_method_20_code 0 = .ok (.aload_n 0, 1) := by decide +kernel
theorem dhR_1 : decode prog_2_method_20_code 1 = .ok (.getfield 67, 3) := by decide +kernel
theorem dhR_4 : decode prog_2_method_20_code 4 = .ok (.aload_n 1, 1) := by decide +kernel
theorem dhR_5 : decode prog_2_method_20_code 5 = .ok (.invokeinterface 153 2, 5) := by decide +kernel
theorem dhR_10 : decode prog_2_method_20_code 10 = .ok (.ireturn, 1) := by decide +kernel
abbrev bhR : wkB := (⟨"com/example/gate_authz/gateauthz/core/Caller", "hasRole", "(Ljava/lang/String;)Z"⟩, prog_2_method_20_code, 2, (some .boolean))
theorem deqI_0 : decode jdk_42_method_66_code 0 = .ok (.aload_n 0, 1) := by decide +kernel
theorem deqI_1 : decode jdk_42_method_66_code 1 = .ok (.aload_n 1, 1) := by decide +kernel
theorem deqI_2 : decode jdk_42_method_66_code 2 = .ok (.if_acmp .ne 5, 3) := by decide +kernel
theorem deqI_5 : decode jdk_42_method_66_code 5 = .ok (.iconst 1, 1) := by decide +kernel
theorem deqI_6 : decode jdk_42_method_66_code 6 = .ok (.ireturn, 1) := by decide +kernel
abbrev beqI : wkB := (⟨"java/lang/String", "equals", "(Ljava/lang/Object;)Z"⟩, jdk_42_method_66_code, 3, (some .boolean))
abbrev blaw : wkB := (⟨"com/example/gate_authz/gateauthz/core/CallerInvalidTokenPinLaw", "law", "(IIIIII)Z"⟩, code, 10, (some .boolean))
theorem sAtoms {Z : State} {a0 : Array Value} (hw : ∀ d ∈ tables_1, d.before a0 Z = true) : ∀ a ∈ Bundle.stringAtoms, a.before a0 Z = true := by
  intro a ha
  simp only [Bundle.stringAtoms, List.mem_cons, List.not_mem_nil, or_false] at ha
  rcases ha with rfl | rfl | rfl | rfl | rfl | rfl | rfl
  · exact (w6 hw)
  · exact (w5 hw)
  · exact (w19 hw)
  · exact (w20 hw)
  · exact (w21 hw)
  · exact (w22 hw)
  · exact (w23 hw)
abbrev rcmp5 : Room := { frames := 0, cells := 0, slots := 0, locals := 0 }
/-- compress: the chars below 256 go over, up to the first that isn't -/
def Qcmp5 (Z : State) (d : Addr) (cs : List Int32) (v : Option Value) (h' : Heap) (os : List Addr) : Prop := ∃ (i : Nat) (ys : List Int32), i ≤ cs.length ∧ v = some (.int (Int32.ofNat i)) ∧ os = [] ∧ Ia Z h' d .byte ys ∧ ys.length = cs.length ∧ (∀ j, j < i → ∃ c, cs[j]? = some c ∧ ¬ 255 < c ∧ ys[j]? = some (lo8 c)) ∧ (i < cs.length → ∃ c, cs[i]? = some c ∧ 255 < c)
set_option maxRecDepth 65536 in
set_option maxHeartbeats 4000000 in
theorem L_cmp5 (l : Launch) (Z : State) (a0 : Array Value) (g : G Z a0) (hs : Heap) (b d : Addr) (cs : List Int32) (hbd : @Ne Nat b d) (hl31 : cs.length < 2 ^ 31) : ∀ (r i : Nat) (h : Heap) (ds : List Int32) (o6 : Slot), One o6 → i + r = cs.length → Ia Z h b .char cs → Ia Z h d .byte ds → ds.length = cs.length → (∀ j, j < i → ∃ c, cs[j]? = some c ∧ ¬ 255 < c ∧ ds[j]? = some (lo8 c)) →
    wkP l Z bcmp5 rcmp5 hs [d] (Qcmp5 Z d cs) [d] h 0 0 3 #[.val (.ref b), .val (.int (Int32.ofNat i)), .val (.ref d), .val (.int (Int32.ofNat i)), .val (.int (Int32.ofNat cs.length)), .val (.int (Int32.ofNat i)), o6] [] := by
  intro r
  induction r with
  | zero =>
    intro i h ds o6 ho6 hir F D hds hj
    have hi31 : i < 2 ^ 31 := by omega
    refine wkP.iload 5 dcmp5_3 rfl rfl ?_
    refine wkP.iload 7 dcmp5_5 rfl rfl ?_
    refine wkP.icmpT 44 dcmp5_7 (show ¬ (Int32.ofNat i) < (Int32.ofNat cs.length) from (by rw [ofNat_lt hi31 hl31]; omega)) (by decide) (by decide) ?_
    refine wkP.iload 46 dcmp5_44 rfl rfl ?_
    exact wkP.retI .int [] g.2.1 dcmp5_46 rfl (by simp) rfl (by decide) (by decide) (by simp) ⟨i, ds, by omega, by rw [show cs.length = i by omega], rfl, D, hds, hj, fun q => absurd q (by omega)⟩
  | succ r ih =>
    intro i h ds o6 ho6 hir F D hds hj
    have hi31 : i < 2 ^ 31 := by omega
    refine wkP.iload 5 dcmp5_3 rfl rfl ?_
    refine wkP.iload 7 dcmp5_5 rfl rfl ?_
    refine wkP.icmpF 10 dcmp5_7 (show ¬ (¬ (Int32.ofNat i) < (Int32.ofNat cs.length)) from (fun q => q ((ofNat_lt hi31 hl31).mpr (by omega)))) rfl ?_
    refine wkP.aloadN 11 dcmp5_10 rfl rfl rfl ?_
    refine wkP.iloadN 12 dcmp5_11 rfl rfl ?_
    obtain ⟨c, hc⟩ : ∃ c, cs[i]? = some c := ⟨_, List.getElem?_eq_getElem (show i < cs.length by omega)⟩
    refine wkP.caload 13 i c F dcmp5_12 (toI hi31) hc rfl ?_
    refine wkP.istore 15 #[.val (.ref b), .val (.int (Int32.ofNat i)), .val (.ref d), .val (.int (Int32.ofNat i)), .val (.int (Int32.ofNat cs.length)), .val (.int (Int32.ofNat i)), .val (.int c)] dcmp5_13 (XS.store1 rfl ho6 rfl) rfl ?_
    refine wkP.iload 17 dcmp5_15 rfl rfl ?_
    refine wkP.sipush 20 (255 : Int32) dcmp5_17 rfl rfl ?_
    by_cases hq : (255 : Int32) < c
    · refine wkP.icmpF 23 dcmp5_20 (show ¬ (¬ (255 : Int32) < c) from (fun q => q hq)) rfl ?_
      refine wkP.iload 25 dcmp5_23 rfl rfl ?_
      exact wkP.retI .int [] g.2.1 dcmp5_25 rfl (by simp) rfl (by decide) (by decide) (by simp) ⟨i, ds, by omega, rfl, rfl, D, hds, hj, fun _ => ⟨c, hc, hq⟩⟩
    · refine wkP.icmpT 26 dcmp5_20 (show ¬ (255 : Int32) < c from hq) (by decide) (by decide) ?_
      refine wkP.aloadN 27 dcmp5_26 rfl rfl rfl ?_
      refine wkP.iloadN 28 dcmp5_27 rfl rfl ?_
      refine wkP.iload 30 dcmp5_28 rfl rfl ?_
      refine wkP.i2b 31 (lo8 c) dcmp5_30 rfl rfl ?_
      refine wkP.stB 32 i (lo8 c) D dcmp5_31 (toI hi31) (by omega) (nar_lo8 c) (by simp) rfl ?_
      intro h1 K1 A1
      refine wkP.iinc 35 (Int32.ofNat (i + 1)) #[.val (.ref b), .val (.int (Int32.ofNat (i + 1))), .val (.ref d), .val (.int (Int32.ofNat i)), .val (.int (Int32.ofNat cs.length)), .val (.int (Int32.ofNat i)), .val (.int c)] dcmp5_32 rfl (inc1 i) rfl rfl ?_
      refine wkP.iinc 38 (Int32.ofNat (i + 1)) #[.val (.ref b), .val (.int (Int32.ofNat (i + 1))), .val (.ref d), .val (.int (Int32.ofNat (i + 1))), .val (.int (Int32.ofNat cs.length)), .val (.int (Int32.ofNat i)), .val (.int c)] dcmp5_35 rfl (inc1 i) rfl rfl ?_
      refine wkP.iinc 41 (Int32.ofNat (i + 1)) #[.val (.ref b), .val (.int (Int32.ofNat (i + 1))), .val (.ref d), .val (.int (Int32.ofNat (i + 1))), .val (.int (Int32.ofNat cs.length)), .val (.int (Int32.ofNat (i + 1))), .val (.int c)] dcmp5_38 rfl (inc1 i) rfl rfl ?_
      refine wkP.goto 3 dcmp5_41 (by decide) (by decide) ?_
      refine ih (i + 1) h1 (ds.set i (lo8 c)) _ (One.val rfl) (by omega) (F.keep K1 (nn1 hbd)) A1 (by simpa using hds) ?_
      intro j hj1
      by_cases hji : j = i
      · subst hji; exact ⟨c, hc, hq, by simp [show j < ds.length by omega]⟩
      · obtain ⟨c', q1, q2, q3⟩ := hj j (by omega); exact ⟨c', q1, q2, by rw [List.getElem?_set_ne (Ne.symm hji)]; exact q3⟩
set_option maxRecDepth 65536 in
set_option maxHeartbeats 4000000 in
theorem M_cmp5 (l : Launch) (Z : State) (a0 : Array Value) (g : G Z a0) (h : Heap) (b d : Addr) (cs ds : List Int32) (F : Ia Z h b .char cs) (D : Ia Z h d .byte ds) (hl : ds.length = cs.length) : wkM l Z bcmp5 rcmp5 #[.ref b, .int 0, .ref d, .int 0, .int (Int32.ofNat cs.length)] h [d] (Qcmp5 Z d cs) := by
  refine wkM.of #[.val (.ref b), .val (.int (0 : Int32)), .val (.ref d), .val (.int (0 : Int32)), .val (.int (Int32.ofNat cs.length)), .unset, .unset] (plainFor_of_name (by first | (simp [plainName, overriddenIn]; done) | decide +kernel)) (fun m => by first | rfl | (simp [entryFrame, mkF, argsToLocals, Value.category]; done)) ?_
  refine wkP.iconst 1 (0 : Int32) dcmp5_0 rfl rfl ?_
  refine wkP.istore 3 #[.val (.ref b), .val (.int (0 : Int32)), .val (.ref d), .val (.int (0 : Int32)), .val (.int (Int32.ofNat cs.length)), .val (.int (0 : Int32)), .unset] dcmp5_1 rfl rfl ?_
  exact L_cmp5 l Z a0 g h b d cs (F.ne D (by decide)) F.len cs.length 0 h ds .unset One.u (by omega) F D hl (fun j hj => absurd hj (by omega))
abbrev rcodL : Room := { frames := 0, cells := 0, slots := 0, locals := 0 }
set_option maxRecDepth 65536 in
set_option maxHeartbeats 4000000 in
theorem M_codL (l : Launch) (Z : State) (a0 : Array Value) (g : G Z a0) (h : Heap) (b : Addr) (ys : List Int32) (n : Nat) (F : Ia Z h b .byte ys) (hn : ys.length = n) : wkM l Z bcodL rcodL #[.ref b, .int (Int32.ofNat n)] h [] (fun v h' os => v = some (.int 0) ∧ os = [] ∧ h = h') := by
  refine wkM.of #[.val (.ref b), .val (.int (Int32.ofNat n))] (plainFor_of_name (by first | (simp [plainName, overriddenIn]; done) | decide +kernel)) (fun m => by first | rfl | (simp [entryFrame, mkF, argsToLocals, Value.category]; done)) ?_
  refine wkP.iloadN 1 dcodL_0 rfl rfl ?_
  refine wkP.aloadN 2 dcodL_1 rfl rfl rfl ?_
  refine wkP.alen 3 (Int32.ofNat n) F dcodL_2 (by rw [hn]) rfl ?_
  refine wkP.isub 4 (0 : Int32) dcodL_3 (by simp) rfl ?_
  refine wkP.bipush 6 (31 : Int32) dcodL_4 rfl rfl ?_
  refine wkP.iushr 7 (0 : Int32) dcodL_6 (by decide) rfl ?_
  refine wkP.i2b 8 (0 : Int32) dcodL_7 (by decide) rfl ?_
  exact wkP.retI .byte [] g.2.1 dcodL_8 rfl (by simp) rfl (by decide) (by decide) (by simp) ⟨rfl, rfl, rfl⟩
abbrev rcmp3 : Room := { frames := 1, cells := 1, slots := 3, locals := 18 }
set_option maxRecDepth 65536 in
set_option maxHeartbeats 4000000 in
theorem M_cmp3 (l : Launch) (Z : State) (a0 : Array Value) (g : G Z a0) (h : Heap) (b : Addr) (cs : List Int32) (F : Ia Z h b .char cs) (hlat : lat cs) (hcap : cs.length ≤ 3) : wkM l Z bcmp3 rcmp3 #[.ref b, .int 0, .int (Int32.ofNat cs.length)] h [] (fun v h' os => ∃ d, v = some (.ref d) ∧ h.size ≤ d ∧ os = [d] ∧ Ia Z h' d .byte (cs.map lo8)) := by
  refine wkM.of #[.val (.ref b), .val (.int (0 : Int32)), .val (.int (Int32.ofNat cs.length)), .unset, .unset, .unset] (plainFor_of_name (by first | (simp [plainName, overriddenIn]; done) | decide +kernel)) (fun m => by first | rfl | (simp [entryFrame, mkF, argsToLocals, Value.category]; done)) ?_
  refine wkP.iloadN 1 dcmp3_0 rfl rfl ?_
  refine wkP.newP 3 .byte cs.length 3 (w19 g.1) rfl rfl rfl dcmp3_1 (toI F.len) (by omega) (by decide) (by decide) (by decide) rfl ?_
  intro h2 a2 g2 l2 K2 A2
  have z2 := K2.1
  refine wkP.astoreN 4 #[.val (.ref b), .val (.int (0 : Int32)), .val (.int (Int32.ofNat cs.length)), .val (.ref a2), .unset, .unset] dcmp3_3 rfl rfl rfl ?_
  refine wkP.aloadN 5 dcmp3_4 rfl rfl rfl ?_
  refine wkP.iloadN 6 dcmp3_5 rfl rfl ?_
  refine wkP.aloadN 7 dcmp3_6 rfl rfl rfl ?_
  refine wkP.iconst 8 (0 : Int32) dcmp3_7 rfl rfl ?_
  refine wkP.iloadN 9 dcmp3_8 rfl rfl ?_
  have F_3 := (F.keep K2 nn0)
  refine wkP.callS 12 (M_cmp5 l Z a0 g _ b a2 cs _ F_3 A2 (by simp)) [(.ref b), (.int (0 : Int32)), (.ref a2), (.int (0 : Int32)), (.int (Int32.ofNat cs.length))] [] 0 g.2.1 (w141 g.1) (w142 g.1) (w139 g.1) (w143 g.1) (by decide) dcmp3_9 (lenOf pd0 rfl) rfl rfl rfl (by simp) (Nat.le_of_eq rfl) (by decide) (by decide) (by decide) (by decide) rfl ?_
  rintro v4 h4 o4 ⟨i, ys, hi, rfl, rfl, A4, hy, hj, hno⟩ K4
  have z4 := K4.1
  have hil : i = cs.length := by
    rcases Nat.lt_or_ge i cs.length with q | q
    · obtain ⟨c, c1, c2⟩ := hno q; exact absurd c2 (hlat c (List.mem_of_getElem? c1)).2
    · omega
  subst hil
  have hys : ys = cs.map lo8 := by
    refine List.ext_getElem? fun j => ?_
    rcases Nat.lt_or_ge j cs.length with q | q
    · obtain ⟨c, c1, -, c2⟩ := hj j q; rw [c2]; simp [c1]
    · rw [List.getElem?_eq_none (by omega), List.getElem?_eq_none (by simpa using q)]
  subst hys
  refine wkP.istore 14 #[.val (.ref b), .val (.int (0 : Int32)), .val (.int (Int32.ofNat cs.length)), .val (.ref a2), .val (.int (Int32.ofNat cs.length)), .unset] dcmp3_12 rfl rfl ?_
  refine wkP.iload 16 dcmp3_14 rfl rfl ?_
  refine wkP.iloadN 17 dcmp3_16 rfl rfl ?_
  refine wkP.icmpT 57 dcmp3_17 (show (Int32.ofNat cs.length) = (Int32.ofNat cs.length) from rfl) (by decide) (by decide) ?_
  refine wkP.aloadN 58 dcmp3_57 rfl rfl rfl ?_
  exact wkP.retA (.array .byte) [a2] g.2.1 dcmp3_58 rfl rfl (by decide) (by decide) (by simp) ⟨a2, rfl, by omega, rfl, A4⟩
abbrev rinit4 : Room := { frames := 2, cells := 4, slots := 8, locals := 35 }
set_option maxRecDepth 65536 in
set_option maxHeartbeats 4000000 in
theorem M_init4 (l : Launch) (Z : State) (a0 : Array Value) (g : G Z a0) (h : Heap) (a b : Addr) (cs : List Int32) (F : Ia Z h b .char cs) (hlat : lat cs) (hcap : cs.length ≤ 3) (vc vv : Value) (E : Exa Z h a "java/lang/String") (FC : Fld Z h a "java/lang/String" "coder" "B" vc) (FV : Fld Z h a "java/lang/String" "value" "[B" vv) : wkM l Z binit4 rinit4 #[.ref a, .ref b, .int 0, .int (Int32.ofNat cs.length), .null] h [a] (fun v h' os => ∃ d, v = none ∧ os = [] ∧ SL Z h' a d cs) := by
  refine wkM.of #[.val (.ref a), .val (.ref b), .val (.int (0 : Int32)), .val (.int (Int32.ofNat cs.length)), .val .null, .unset] (plainFor_of_name (by first | (simp [plainName, overriddenIn]; done) | decide +kernel)) (fun m => by first | rfl | (simp [entryFrame, mkF, argsToLocals, Value.category]; done)) ?_
  obtain ⟨zc, hzc, hzn⟩ := g.2.2.1
  have la := exaLt E
  refine wkP.aloadN 1 dinit4_0 rfl rfl rfl ?_
  refine wkP.initO 4 (w15 g.1) (w16 g.1) (w17 g.1) dinit4_1 rfl (by decide) 0 (Nat.le_of_eq rfl) (by decide) rfl ?_
  refine wkP.iloadN 5 dinit4_4 rfl rfl ?_
  by_cases hne : cs.length = 0
  · refine wkP.ifF 8 dinit4_5 (show ¬ (¬ (Int32.ofNat cs.length) = (0 : Int32)) from (fun q => q (by rw [hne]; rfl))) rfl ?_
    obtain rfl : cs = [] := List.length_eq_zero_iff.mp hne
    refine wkP.aloadN 9 dinit4_8 rfl rfl rfl ?_
    refine wkP.ldc 11 ([] : List Int32) 0 (w18 g.1) (sAtoms g.1) g.2.1 (by decide) (by decide) rfl (by decide) dinit4_9 (by decide) (by decide) (by decide) (by decide) rfl ?_
    intro h5 a5 b5 K5 E5 C5 V5 A5 ne5
    have z5 := K5.1
    have la5 := exaLt E5
    have lb5 := A5.lt
    refine wkP.getF 14 (w24 g.1) V5 Via.refl dinit4_11 rfl ?_
    have FV_6 := (FV.keep K5 nn0)
    have E_7 := (E.keep K5)
    have FC_8 := (FC.keep K5 nn0)
    refine wkP.putF 17 (w24 g.1) FV_6 E_7 (Or.inr ⟨(w20 g.1), rfl, rfl⟩) (w5 g.1) (ty := (.array .byte)) (by decide) rfl rfl dinit4_14 (by simp) rfl ?_
    intro h9 K9 W9
    have z9 := K9.1
    have F9 := Fld.same W9 FV_6
    have E9 := Exa.wr W9 E_7
    have F10 := Fld.other W9 FC_8 (Or.inr (slot_ne (t := .byte) (t' := (.array .byte)) (Or.inr (w21 g.1)) (Or.inr (w20 g.1)) (by decide) (by decide) (by decide)))
    refine wkP.aloadN 18 dinit4_17 rfl rfl rfl ?_
    refine wkP.ldc 20 ([] : List Int32) 0 (w18 g.1) (sAtoms g.1) g.2.1 (by decide) (by decide) rfl (by decide) dinit4_18 (by decide) (by decide) (by decide) (by decide) rfl ?_
    intro h11 a11 b11 K11 E11 C11 V11 A11 ne11
    have z11 := K11.1
    have la11 := exaLt E11
    have lb11 := A11.lt
    refine wkP.getF 23 (w25 g.1) C11 Via.refl dinit4_20 rfl ?_
    have F10_12 := (F10.keep K11 nn0)
    have E9_13 := (E9.keep K11)
    have F9_14 := (F9.keep K11 nn0)
    refine wkP.putF 26 (w25 g.1) F10_12 E9_13 (Or.inr ⟨(w21 g.1), rfl, rfl⟩) (w5 g.1) (ty := .byte) (by decide) rfl rfl dinit4_23 (by simp) rfl ?_
    intro h15 K15 W15
    have z15 := K15.1
    have F15 := Fld.same W15 F10_12
    have E15 := Exa.wr W15 E9_13
    have F16 := Fld.other W15 F9_14 (Or.inr (slot_ne (t := (.array .byte)) (t' := .byte) (Or.inr (w20 g.1)) (Or.inr (w21 g.1)) (by decide) (by decide) (by decide)))
    have A5_17 := (((A5.keep K9 (nnS (Ne.symm (ne5 a (by simp)).2) nn0)).keep K11 nn0).keep K15 (nnS (Ne.symm (ne5 a (by simp)).2) nn0))
    exact wkP.ret0 [] g.2.1 dinit4_26 rfl (by decide) (by decide) (by simp) ⟨b5, rfl, rfl, E15, F15, F16, A5_17, fun x hx => by simp at hx⟩
  · refine wkP.ifT 27 dinit4_5 (show ¬ (Int32.ofNat cs.length) = (0 : Int32) from (fun q => hne ((ofNat_inj F.len (by decide)).mp q))) (by decide) (by decide) ?_
    refine wkP.getS 30 (w125 g.1) hzc Via.refl dinit4_27 rfl ?_
    refine wkP.ifF 33 dinit4_30 (show ¬ (zc = (0 : Int32)) from hzn) rfl ?_
    refine wkP.aloadN 34 dinit4_33 rfl rfl rfl ?_
    refine wkP.iloadN 35 dinit4_34 rfl rfl ?_
    refine wkP.iloadN 36 dinit4_35 rfl rfl ?_
    refine wkP.callS 39 (M_cmp3 l Z a0 g _ b cs F hlat hcap) [(.ref b), (.int (0 : Int32)), (.int (Int32.ofNat cs.length))] [] 0 g.2.1 (w137 g.1) (w138 g.1) (w139 g.1) (w140 g.1) (by decide) dinit4_36 (lenOf pd1 rfl) rfl rfl rfl (by simp) (Nat.le_of_eq rfl) (by decide) (by decide) (by decide) (by decide) rfl ?_
    rintro v18 h18 o18 ⟨d, rfl, gd, rfl, A18⟩ K18
    have z18 := K18.1
    have ld := A18.lt
    refine wkP.astore 41 #[.val (.ref a), .val (.ref b), .val (.int (0 : Int32)), .val (.int (Int32.ofNat cs.length)), .val .null, .val (.ref d)] dinit4_39 rfl rfl rfl ?_
    refine wkP.aloadN 42 dinit4_41 rfl rfl rfl ?_
    refine wkP.aload 44 dinit4_42 rfl rfl rfl ?_
    refine wkP.iloadN 45 dinit4_44 rfl rfl ?_
    have hl2 : (cs.map lo8).length = cs.length := by simp
    refine wkP.callS 48 (M_codL l Z a0 g _ d (cs.map lo8) cs.length A18 hl2) [(.ref d), (.int (Int32.ofNat cs.length))] [(.ref a)] 1 g.2.1 (w144 g.1) (w145 g.1) (w139 g.1) (w146 g.1) (by decide) dinit4_45 (lenOf pd2 rfl) rfl rfl rfl (by simp) (Nat.le_of_eq rfl) (by decide) (by decide) (by decide) (by decide) rfl ?_
    rintro v19 _ o19 ⟨rfl, rfl, rfl⟩ K19
    have FC_20 := (FC.keep K18 nn0)
    have E_21 := (E.keep K18)
    have FV_22 := (FV.keep K18 nn0)
    refine wkP.putF 51 (w25 g.1) FC_20 E_21 (Or.inr ⟨(w21 g.1), rfl, rfl⟩) (w5 g.1) (ty := .byte) (by decide) rfl rfl dinit4_48 (by simp) rfl ?_
    intro h23 K23 W23
    have z23 := K23.1
    have F23 := Fld.same W23 FC_20
    have E23 := Exa.wr W23 E_21
    have F24 := Fld.other W23 FV_22 (Or.inr (slot_ne (t := (.array .byte)) (t' := .byte) (Or.inr (w20 g.1)) (Or.inr (w21 g.1)) (by decide) (by decide) (by decide)))
    refine wkP.aloadN 52 dinit4_51 rfl rfl rfl ?_
    refine wkP.aload 54 dinit4_52 rfl rfl rfl ?_
    refine wkP.putF 57 (w24 g.1) F24 E23 (Or.inr ⟨(w20 g.1), rfl, rfl⟩) (w5 g.1) (ty := (.array .byte)) (by decide) rfl rfl dinit4_54 (by simp) rfl ?_
    intro h25 K25 W25
    have z25 := K25.1
    have F25 := Fld.same W25 F24
    have E25 := Exa.wr W25 E23
    have F26 := Fld.other W25 F23 (Or.inr (slot_ne (t := .byte) (t' := (.array .byte)) (Or.inr (w21 g.1)) (Or.inr (w20 g.1)) (by decide) (by decide) (by decide)))
    have A18_27 := ((A18.keep K23 (nnS (by omega) nn0)).keep K25 (nnS (by omega) nn0))
    exact wkP.ret0 [] g.2.1 dinit4_57 rfl (by decide) (by decide) (by simp) ⟨d, rfl, rfl, E25, F26, F25, A18_27, hlat⟩
abbrev rinit1 : Room := { frames := 3, cells := 4, slots := 8, locals := 52 }
set_option maxRecDepth 65536 in
set_option maxHeartbeats 4000000 in
theorem M_init1 (l : Launch) (Z : State) (a0 : Array Value) (g : G Z a0) (h : Heap) (a b : Addr) (cs : List Int32) (F : Ia Z h b .char cs) (hlat : lat cs) (hcap : cs.length ≤ 3) (vc vv : Value) (E : Exa Z h a "java/lang/String") (FC : Fld Z h a "java/lang/String" "coder" "B" vc) (FV : Fld Z h a "java/lang/String" "value" "[B" vv) : wkM l Z binit1 rinit1 #[.ref a, .ref b] h [a] (fun v h' os => ∃ d, v = none ∧ os = [] ∧ SL Z h' a d cs) := by
  refine wkM.of #[.val (.ref a), .val (.ref b)] (plainFor_of_name (by first | (simp [plainName, overriddenIn]; done) | decide +kernel)) (fun m => by first | rfl | (simp [entryFrame, mkF, argsToLocals, Value.category]; done)) ?_
  refine wkP.aloadN 1 dinit1_0 rfl rfl rfl ?_
  refine wkP.aloadN 2 dinit1_1 rfl rfl rfl ?_
  refine wkP.iconst 3 (0 : Int32) dinit1_2 rfl rfl ?_
  refine wkP.aloadN 4 dinit1_3 rfl rfl rfl ?_
  refine wkP.alen 5 (Int32.ofNat cs.length) F dinit1_4 rfl rfl ?_
  refine wkP.anull 6 dinit1_5 rfl ?_
  refine wkP.callI 9 (M_init4 l Z a0 g _ a b cs F hlat hcap vc vv E FC FV) [(.ref b), (.int (0 : Int32)), (.int (Int32.ofNat cs.length)), .null] [] 0 g.2.1 (w11 g.1) (w12 g.1) (w6 g.1) (w14 g.1) rfl rfl (by decide) dinit1_6 (lenOf pd3 rfl) rfl rfl rfl (by simp) (Nat.le_of_eq rfl) (by decide) (by decide) (by decide) (by decide) rfl ?_
  rintro v28 h28 o28 ⟨d, rfl, rfl, H⟩ K28
  have z28 := K28.1
  exact wkP.ret0 [] g.2.1 dinit1_9 rfl (by decide) (by decide) (by simp) ⟨d, rfl, rfl, H⟩
abbrev rcanE : Room := { frames := 0, cells := 0, slots := 0, locals := 0 }
set_option maxRecDepth 65536 in
set_option maxHeartbeats 4000000 in
theorem M_canE (l : Launch) (Z : State) (a0 : Array Value) (g : G Z a0) (h : Heap) (c : Int32) (hc : ¬ 255 < c) : wkM l Z bcanE rcanE #[.int c] h [] (fun v h' os => v = some (.int 1) ∧ os = [] ∧ h = h') := by
  refine wkM.of #[.val (.int c)] (plainFor_of_name (by first | (simp [plainName, overriddenIn]; done) | decide +kernel)) (fun m => by first | rfl | (simp [entryFrame, mkF, argsToLocals, Value.category]; done)) ?_
  refine wkP.iloadN 1 dcanE_0 rfl rfl ?_
  refine wkP.sipush 4 (255 : Int32) dcanE_1 rfl rfl ?_
  refine wkP.icmpF 7 dcanE_4 (show ¬ ((255 : Int32) < c) from hc) rfl ?_
  refine wkP.iconst 8 (1 : Int32) dcanE_7 rfl rfl ?_
  refine wkP.goto 12 dcanE_8 (by decide) (by decide) ?_
  exact wkP.retI .boolean [] g.2.1 dcanE_12 rfl (by simp) rfl (by decide) (by decide) (by simp) ⟨rfl, rfl, rfl⟩
abbrev rtoB : Room := { frames := 0, cells := 1, slots := 1, locals := 0 }
set_option maxRecDepth 65536 in
set_option maxHeartbeats 4000000 in
theorem M_toB (l : Launch) (Z : State) (a0 : Array Value) (g : G Z a0) (h : Heap) (c : Int32) : wkM l Z btoB rtoB #[.int c] h [] (fun v h' os => ∃ d, v = some (.ref d) ∧ h.size ≤ d ∧ os = [d] ∧ Ia Z h' d .byte [lo8 c]) := by
  refine wkM.of #[.val (.int c)] (plainFor_of_name (by first | (simp [plainName, overriddenIn]; done) | decide +kernel)) (fun m => by first | rfl | (simp [entryFrame, mkF, argsToLocals, Value.category]; done)) ?_
  refine wkP.iconst 1 (1 : Int32) dtoB_0 rfl rfl ?_
  refine wkP.newP 3 .byte 1 1 (w19 g.1) rfl rfl rfl dtoB_1 rfl (by decide) (by decide) (by decide) (by decide) rfl ?_
  intro h29 a29 g29 l29 K29 A29
  have z29 := K29.1
  replace A29 : Ia Z h29 a29 .byte [(0 : Int32)] := A29
  refine wkP.dup 4 dtoB_3 rfl rfl ?_
  refine wkP.iconst 5 (0 : Int32) dtoB_4 rfl rfl ?_
  refine wkP.iloadN 6 dtoB_5 rfl rfl ?_
  refine wkP.i2b 7 (lo8 c) dtoB_6 rfl rfl ?_
  refine wkP.stB 8 0 (lo8 c) A29 dtoB_7 rfl (by simp) (nar_lo8 c) (by simp) rfl ?_
  intro h30 K30 A30
  have z30 := K30.1
  replace A30 : Ia Z h30 a29 .byte [(lo8 c)] := A30
  exact wkP.retA (.array .byte) [a29] g.2.1 dtoB_8 rfl rfl (by decide) (by decide) (by simp) ⟨a29, rfl, by omega, rfl, A30⟩
abbrev rinitBB : Room := { frames := 1, cells := 0, slots := 0, locals := 12 }
set_option maxRecDepth 65536 in
set_option maxHeartbeats 4000000 in
theorem M_initBB (l : Launch) (Z : State) (a0 : Array Value) (g : G Z a0) (h : Heap) (a d : Addr) (cs : List Int32) (D : Ia Z h d .byte (cs.map lo8)) (hlat : lat cs) (hda : @Ne Nat d a) (vc vv : Value) (E : Exa Z h a "java/lang/String") (FC : Fld Z h a "java/lang/String" "coder" "B" vc) (FV : Fld Z h a "java/lang/String" "value" "[B" vv) : wkM l Z binitBB rinitBB #[.ref a, .ref d, .int 0] h [a] (fun v h' os => v = none ∧ os = [] ∧ SL Z h' a d cs) := by
  refine wkM.of #[.val (.ref a), .val (.ref d), .val (.int (0 : Int32))] (plainFor_of_name (by first | (simp [plainName, overriddenIn]; done) | decide +kernel)) (fun m => by first | rfl | (simp [entryFrame, mkF, argsToLocals, Value.category]; done)) ?_
  refine wkP.aloadN 1 dinitBB_0 rfl rfl rfl ?_
  refine wkP.initO 4 (w15 g.1) (w16 g.1) (w17 g.1) dinitBB_1 rfl (by decide) 0 (Nat.le_of_eq rfl) (by decide) rfl ?_
  refine wkP.aloadN 5 dinitBB_4 rfl rfl rfl ?_
  refine wkP.aloadN 6 dinitBB_5 rfl rfl rfl ?_
  refine wkP.putF 9 (w24 g.1) FV E (Or.inr ⟨(w20 g.1), rfl, rfl⟩) (w5 g.1) (ty := (.array .byte)) (by decide) rfl rfl dinitBB_6 (by simp) rfl ?_
  intro h31 K31 W31
  have z31 := K31.1
  have F31 := Fld.same W31 FV
  have E31 := Exa.wr W31 E
  have F32 := Fld.other W31 FC (Or.inr (slot_ne (t := .byte) (t' := (.array .byte)) (Or.inr (w21 g.1)) (Or.inr (w20 g.1)) (by decide) (by decide) (by decide)))
  refine wkP.aloadN 10 dinitBB_9 rfl rfl rfl ?_
  refine wkP.iloadN 11 dinitBB_10 rfl rfl ?_
  refine wkP.putF 14 (w25 g.1) F32 E31 (Or.inr ⟨(w21 g.1), rfl, rfl⟩) (w5 g.1) (ty := .byte) (by decide) rfl rfl dinitBB_11 (by simp) rfl ?_
  intro h33 K33 W33
  have z33 := K33.1
  have F33 := Fld.same W33 F32
  have E33 := Exa.wr W33 E31
  have F34 := Fld.other W33 F31 (Or.inr (slot_ne (t := (.array .byte)) (t' := .byte) (Or.inr (w20 g.1)) (Or.inr (w21 g.1)) (by decide) (by decide) (by decide)))
  have D_35 := ((D.keep K31 (nnS hda nn0)).keep K33 (nnS hda nn0))
  exact wkP.ret0 [] g.2.1 dinitBB_14 rfl (by decide) (by decide) (by simp) ⟨rfl, rfl, E33, F33, F34, D_35, hlat⟩
abbrev rvalC : Room := { frames := 2, cells := 2, slots := 5, locals := 27 }
set_option maxRecDepth 65536 in
set_option maxHeartbeats 4000000 in
theorem M_valC (l : Launch) (Z : State) (a0 : Array Value) (g : G Z a0) (h : Heap) (c : Int32) (hc : ¬ c < 0 ∧ ¬ 255 < c) : wkM l Z bvalC rvalC #[.int c] h [] (fun v h' os => ∃ a d, v = some (.ref a) ∧ h.size ≤ a ∧ h.size ≤ d ∧ os = [] ∧ SL Z h' a d [c]) := by
  refine wkM.of #[.val (.int c)] (plainFor_of_name (by first | (simp [plainName, overriddenIn]; done) | decide +kernel)) (fun m => by first | rfl | (simp [entryFrame, mkF, argsToLocals, Value.category]; done)) ?_
  obtain ⟨zc, hzc, hzn⟩ := g.2.2.1
  refine wkP.getS 3 (w125 g.1) hzc Via.refl dvalC_0 rfl ?_
  refine wkP.ifF 6 dvalC_3 (show ¬ (zc = (0 : Int32)) from hzn) rfl ?_
  refine wkP.iloadN 7 dvalC_6 rfl rfl ?_
  refine wkP.callS 10 (M_canE l Z a0 g _ c hc.2) [(.int c)] [] 0 g.2.1 (w126 g.1) (w127 g.1) (w128 g.1) (w129 g.1) (by decide) dvalC_7 (lenOf pd4 rfl) rfl rfl rfl (by simp) (Nat.le_of_eq rfl) (by decide) (by decide) (by decide) (by decide) rfl ?_
  rintro v36 _ o36 ⟨rfl, rfl, rfl⟩ K36
  refine wkP.ifF 13 dvalC_10 (show ¬ ((1 : Int32) = (0 : Int32)) from (by decide)) rfl ?_
  refine wkP.newO 16 (w130 g.1) (w5 g.1) (w6 g.1) dvalC_13 (by decide) (by decide) rfl ?_
  intro h37 a37 g37 l37 K37 E37 D37 U37
  have z37 := K37.1
  have F38 := D37 (Or.inr (w21 g.1)) (ty := .byte) (by decide)
  have F39 := D37 (Or.inr (w20 g.1)) (ty := (.array .byte)) (by decide)
  refine wkP.dup 17 dvalC_16 rfl rfl ?_
  refine wkP.iloadN 18 dvalC_17 rfl rfl ?_
  refine wkP.callS 21 (M_toB l Z a0 g _ c) [(.int c)] [(.ref a37), (.ref a37)] 2 g.2.1 (w131 g.1) (w132 g.1) (w128 g.1) (w133 g.1) (by decide) dvalC_18 (lenOf pd5 rfl) rfl rfl rfl (by simp) (Nat.le_of_eq rfl) (by decide) (by decide) (by decide) (by decide) rfl ?_
  rintro v40 h40 o40 ⟨d, rfl, gd, rfl, A40⟩ K40
  have z40 := K40.1
  have ld := A40.lt
  refine wkP.iconst 22 (0 : Int32) dvalC_21 rfl rfl ?_
  have E37_41 := (E37.keep K40)
  have F38_42 := (F38.keep K40 nn0)
  have F39_43 := (F39.keep K40 nn0)
  refine wkP.callI 25 (M_initBB l Z a0 g _ a37 d [c] A40 (fun x hx => by simp at hx; rw [hx]; exact hc) (by omega) _ _ E37_41 F38_42 F39_43) [(.ref d), (.int (0 : Int32))] [(.ref a37)] 1 g.2.1 (w134 g.1) (w135 g.1) (w6 g.1) (w136 g.1) rfl rfl (by decide) dvalC_22 (lenOf pd6 rfl) rfl rfl rfl (by simp) (Nat.le_of_eq rfl) (by decide) (by decide) (by decide) (by decide) rfl ?_
  rintro v44 h44 o44 ⟨rfl, rfl, H⟩ K44
  have z44 := K44.1
  exact wkP.retA (.object "java/lang/String") [] g.2.1 dvalC_25 rfl rfl (by decide) (by decide) (by simp) ⟨a37, d, rfl, by omega, by omega, rfl, H⟩
theorem mask8 (x : Int32) : ∃ z, (x &&& 255).toUInt32.toUInt16.toUInt32.toInt32 = z ∧ ¬ z < 0 ∧ ¬ 255 < z := by
  refine ⟨_, i2c_mask x, ?_⟩
  have h := c_mask x 255 8 (by decide) (by decide)
  simp only [Int32.lt_iff_toInt_lt, Int32.reduceToInt]
  omega
theorem nar_ch {x : Int32} (q : ¬ x < 0 ∧ ¬ 255 < x) : nar .char x = x := by
  show x.toUInt32.toUInt16.toUInt32.toInt32 = x
  have h := c_i2c x
  rw [← Int32.toInt_inj]
  simp only [Int32.lt_iff_toInt_lt, Int32.reduceToInt] at q
  omega
abbrev rstr : Room := { frames := 4, cells := 6, slots := 15, locals := 66 }
set_option maxRecDepth 65536 in
set_option maxHeartbeats 4000000 in
theorem M_str (l : Launch) (Z : State) (a0 : Array Value) (g : G Z a0) (h : Heap) (i0 i1 i2 i3 : Int32) : wkM l Z bstr rstr #[.int i0, .int i1, .int i2, .int i3] h [] (fun v h' os => ∃ s t cs, v = some (.ref s) ∧ os = [] ∧ SL Z h' s t cs) := by
  refine wkM.of #[.val (.int i0), .val (.int i1), .val (.int i2), .val (.int i3), .unset, .unset, .unset, .unset] (plainFor_of_name (by first | (simp [plainName, overriddenIn]; done) | decide +kernel)) (fun m => by first | rfl | (simp [entryFrame, mkF, argsToLocals, Value.category]; done)) ?_
  obtain ⟨n, hn⟩ : ∃ z, i0 &&& 3 = z := ⟨_, rfl⟩
  obtain ⟨c0, hc0, hk0⟩ := mask8 i1
  obtain ⟨c1, hc1, hk1⟩ := mask8 i2
  obtain ⟨c2, hc2, hk2⟩ := mask8 i3
  refine wkP.iloadN 1 dstr_0 rfl rfl ?_
  refine wkP.iconst 2 (3 : Int32) dstr_1 rfl rfl ?_
  refine wkP.iand 3 n dstr_2 hn rfl ?_
  refine wkP.istore 5 #[.val (.int i0), .val (.int i1), .val (.int i2), .val (.int i3), .val (.int n), .unset, .unset, .unset] dstr_3 rfl rfl ?_
  refine wkP.iloadN 6 dstr_5 rfl rfl ?_
  refine wkP.sipush 9 (255 : Int32) dstr_6 rfl rfl ?_
  refine wkP.iand 10 (i1 &&& (255 : Int32)) dstr_9 rfl rfl ?_
  refine wkP.i2c 11 c0 dstr_10 hc0 rfl ?_
  refine wkP.istore 13 #[.val (.int i0), .val (.int i1), .val (.int i2), .val (.int i3), .val (.int n), .val (.int c0), .unset, .unset] dstr_11 rfl rfl ?_
  refine wkP.iloadN 14 dstr_13 rfl rfl ?_
  refine wkP.sipush 17 (255 : Int32) dstr_14 rfl rfl ?_
  refine wkP.iand 18 (i2 &&& (255 : Int32)) dstr_17 rfl rfl ?_
  refine wkP.i2c 19 c1 dstr_18 hc1 rfl ?_
  refine wkP.istore 21 #[.val (.int i0), .val (.int i1), .val (.int i2), .val (.int i3), .val (.int n), .val (.int c0), .val (.int c1), .unset] dstr_19 rfl rfl ?_
  refine wkP.iloadN 22 dstr_21 rfl rfl ?_
  refine wkP.sipush 25 (255 : Int32) dstr_22 rfl rfl ?_
  refine wkP.iand 26 (i3 &&& (255 : Int32)) dstr_25 rfl rfl ?_
  refine wkP.i2c 27 c2 dstr_26 hc2 rfl ?_
  refine wkP.istore 29 #[.val (.int i0), .val (.int i1), .val (.int i2), .val (.int i3), .val (.int n), .val (.int c0), .val (.int c1), .val (.int c2)] dstr_27 rfl rfl ?_
  refine wkP.iload 31 dstr_29 rfl rfl ?_
  by_cases q0 : n = (0 : Int32)
  · refine wkP.ifF 34 dstr_31 (show ¬ (¬ n = (0 : Int32)) from (fun q => q q0)) rfl ?_
    refine wkP.newO 37 (w4 g.1) (w5 g.1) (w6 g.1) dstr_34 (by decide) (by decide) rfl ?_
    intro h45 a45 g45 l45 K45 E45 D45 U45
    have z45 := K45.1
    have F46 := D45 (Or.inr (w21 g.1)) (ty := .byte) (by decide)
    have F47 := D45 (Or.inr (w20 g.1)) (ty := (.array .byte)) (by decide)
    refine wkP.dup 38 dstr_37 rfl rfl ?_
    refine wkP.iconst 39 (0 : Int32) dstr_38 rfl rfl ?_
    refine wkP.newP 41 .char 0 0 (w7 g.1) rfl rfl rfl dstr_39 rfl (by decide) (by decide) (by decide) (by decide) rfl ?_
    intro h48 a48 g48 l48 K48 A48
    have z48 := K48.1
    replace A48 : Ia Z h48 a48 .char [] := A48
    have hlt : lat [] := by
      intro c hc
      simp only [List.mem_cons, List.not_mem_nil, or_false] at hc
    have E45_49 := (E45.keep K48)
    have F46_50 := (F46.keep K48 nn0)
    have F47_51 := (F47.keep K48 nn0)
    refine wkP.callI 44 (M_init1 l Z a0 g _ a45 a48 [] A48 hlt (by simp) _ _ E45_49 F46_50 F47_51) [(.ref a48)] [(.ref a45)] 1 g.2.1 (w8 g.1) (w9 g.1) (w6 g.1) (w10 g.1) rfl rfl (by decide) dstr_41 (lenOf pd7 rfl) rfl rfl rfl (by simp) (Nat.le_of_eq rfl) (by decide) (by decide) (by decide) (by decide) rfl ?_
    rintro v52 h52 o52 ⟨d52, rfl, rfl, H52⟩ K52
    have z52 := K52.1
    exact wkP.retA (.object "java/lang/String") [] g.2.1 dstr_44 rfl rfl (by decide) (by decide) (by simp) ⟨a45, d52, _, rfl, rfl, H52⟩
  · refine wkP.ifT 45 dstr_31 (show ¬ n = (0 : Int32) from q0) (by decide) (by decide) ?_
    refine wkP.iload 47 dstr_45 rfl rfl ?_
    refine wkP.iconst 48 (1 : Int32) dstr_47 rfl rfl ?_
    by_cases q1 : n = (1 : Int32)
    · refine wkP.icmpF 51 dstr_48 (show ¬ (¬ n = (1 : Int32)) from (fun q => q q1)) rfl ?_
      refine wkP.iload 53 dstr_51 rfl rfl ?_
      refine wkP.callS 56 (M_valC l Z a0 g _ c0 hk0) [(.int c0)] [] 0 g.2.1 (w122 g.1) (w123 g.1) (w6 g.1) (w124 g.1) (by decide) dstr_53 (lenOf pd8 rfl) rfl rfl rfl (by simp) (Nat.le_of_eq rfl) (by decide) (by decide) (by decide) (by decide) rfl ?_
      rintro v53 h53 o53 ⟨s53, t53, rfl, gs, gt, rfl, H53⟩ K53
      have z53 := K53.1
      exact wkP.retA (.object "java/lang/String") [] g.2.1 dstr_56 rfl rfl (by decide) (by decide) (by simp) ⟨s53, t53, _, rfl, rfl, H53⟩
    · refine wkP.icmpT 57 dstr_48 (show ¬ n = (1 : Int32) from q1) (by decide) (by decide) ?_
      refine wkP.iload 59 dstr_57 rfl rfl ?_
      refine wkP.iconst 60 (2 : Int32) dstr_59 rfl rfl ?_
      by_cases q2 : n = (2 : Int32)
      · refine wkP.icmpF 63 dstr_60 (show ¬ (¬ n = (2 : Int32)) from (fun q => q q2)) rfl ?_
        refine wkP.newO 66 (w4 g.1) (w5 g.1) (w6 g.1) dstr_63 (by decide) (by decide) rfl ?_
        intro h54 a54 g54 l54 K54 E54 D54 U54
        have z54 := K54.1
        have F55 := D54 (Or.inr (w21 g.1)) (ty := .byte) (by decide)
        have F56 := D54 (Or.inr (w20 g.1)) (ty := (.array .byte)) (by decide)
        refine wkP.dup 67 dstr_66 rfl rfl ?_
        refine wkP.iconst 68 (2 : Int32) dstr_67 rfl rfl ?_
        refine wkP.newP 70 .char 2 2 (w7 g.1) rfl rfl rfl dstr_68 rfl (by decide) (by decide) (by decide) (by decide) rfl ?_
        intro h57 a57 g57 l57 K57 A57
        have z57 := K57.1
        replace A57 : Ia Z h57 a57 .char [(0 : Int32), (0 : Int32)] := A57
        refine wkP.dup 71 dstr_70 rfl rfl ?_
        refine wkP.iconst 72 (0 : Int32) dstr_71 rfl rfl ?_
        refine wkP.iload 74 dstr_72 rfl rfl ?_
        refine wkP.stC 75 0 c0 A57 dstr_74 rfl (by simp) (nar_ch hk0) (by simp) rfl ?_
        intro h58 K58 A58
        have z58 := K58.1
        replace A58 : Ia Z h58 a57 .char [c0, (0 : Int32)] := A58
        refine wkP.dup 76 dstr_75 rfl rfl ?_
        refine wkP.iconst 77 (1 : Int32) dstr_76 rfl rfl ?_
        refine wkP.iload 79 dstr_77 rfl rfl ?_
        refine wkP.stC 80 1 c1 A58 dstr_79 rfl (by simp) (nar_ch hk1) (by simp) rfl ?_
        intro h59 K59 A59
        have z59 := K59.1
        replace A59 : Ia Z h59 a57 .char [c0, c1] := A59
        have hlt : lat [c0, c1] := by
          intro c hc
          simp only [List.mem_cons, List.not_mem_nil, or_false] at hc
          rcases hc with rfl | rfl
          · exact hk0
          · exact hk1
        have E54_60 := (((E54.keep K57).keep K58).keep K59)
        have F55_61 := (((F55.keep K57 nn0).keep K58 (nnS (by omega) nn0)).keep K59 (nnS (by omega) nn0))
        have F56_62 := (((F56.keep K57 nn0).keep K58 (nnS (by omega) nn0)).keep K59 (nnS (by omega) nn0))
        refine wkP.callI 83 (M_init1 l Z a0 g _ a54 a57 [c0, c1] A59 hlt (by simp) _ _ E54_60 F55_61 F56_62) [(.ref a57)] [(.ref a54)] 1 g.2.1 (w8 g.1) (w9 g.1) (w6 g.1) (w10 g.1) rfl rfl (by decide) dstr_80 (lenOf pd7 rfl) rfl rfl rfl (by simp) (Nat.le_of_eq rfl) (by decide) (by decide) (by decide) (by decide) rfl ?_
        rintro v63 h63 o63 ⟨d63, rfl, rfl, H63⟩ K63
        have z63 := K63.1
        exact wkP.retA (.object "java/lang/String") [] g.2.1 dstr_83 rfl rfl (by decide) (by decide) (by simp) ⟨a54, d63, _, rfl, rfl, H63⟩
      · refine wkP.icmpT 84 dstr_60 (show ¬ n = (2 : Int32) from q2) (by decide) (by decide) ?_
        refine wkP.newO 87 (w4 g.1) (w5 g.1) (w6 g.1) dstr_84 (by decide) (by decide) rfl ?_
        intro h64 a64 g64 l64 K64 E64 D64 U64
        have z64 := K64.1
        have F65 := D64 (Or.inr (w21 g.1)) (ty := .byte) (by decide)
        have F66 := D64 (Or.inr (w20 g.1)) (ty := (.array .byte)) (by decide)
        refine wkP.dup 88 dstr_87 rfl rfl ?_
        refine wkP.iconst 89 (3 : Int32) dstr_88 rfl rfl ?_
        refine wkP.newP 91 .char 3 3 (w7 g.1) rfl rfl rfl dstr_89 rfl (by decide) (by decide) (by decide) (by decide) rfl ?_
        intro h67 a67 g67 l67 K67 A67
        have z67 := K67.1
        replace A67 : Ia Z h67 a67 .char [(0 : Int32), (0 : Int32), (0 : Int32)] := A67
        refine wkP.dup 92 dstr_91 rfl rfl ?_
        refine wkP.iconst 93 (0 : Int32) dstr_92 rfl rfl ?_
        refine wkP.iload 95 dstr_93 rfl rfl ?_
        refine wkP.stC 96 0 c0 A67 dstr_95 rfl (by simp) (nar_ch hk0) (by simp) rfl ?_
        intro h68 K68 A68
        have z68 := K68.1
        replace A68 : Ia Z h68 a67 .char [c0, (0 : Int32), (0 : Int32)] := A68
        refine wkP.dup 97 dstr_96 rfl rfl ?_
        refine wkP.iconst 98 (1 : Int32) dstr_97 rfl rfl ?_
        refine wkP.iload 100 dstr_98 rfl rfl ?_
        refine wkP.stC 101 1 c1 A68 dstr_100 rfl (by simp) (nar_ch hk1) (by simp) rfl ?_
        intro h69 K69 A69
        have z69 := K69.1
        replace A69 : Ia Z h69 a67 .char [c0, c1, (0 : Int32)] := A69
        refine wkP.dup 102 dstr_101 rfl rfl ?_
        refine wkP.iconst 103 (2 : Int32) dstr_102 rfl rfl ?_
        refine wkP.iload 105 dstr_103 rfl rfl ?_
        refine wkP.stC 106 2 c2 A69 dstr_105 rfl (by simp) (nar_ch hk2) (by simp) rfl ?_
        intro h70 K70 A70
        have z70 := K70.1
        replace A70 : Ia Z h70 a67 .char [c0, c1, c2] := A70
        have hlt : lat [c0, c1, c2] := by
          intro c hc
          simp only [List.mem_cons, List.not_mem_nil, or_false] at hc
          rcases hc with rfl | rfl | rfl
          · exact hk0
          · exact hk1
          · exact hk2
        have E64_71 := ((((E64.keep K67).keep K68).keep K69).keep K70)
        have F65_72 := ((((F65.keep K67 nn0).keep K68 (nnS (by omega) nn0)).keep K69 (nnS (by omega) nn0)).keep K70 (nnS (by omega) nn0))
        have F66_73 := ((((F66.keep K67 nn0).keep K68 (nnS (by omega) nn0)).keep K69 (nnS (by omega) nn0)).keep K70 (nnS (by omega) nn0))
        refine wkP.callI 109 (M_init1 l Z a0 g _ a64 a67 [c0, c1, c2] A70 hlt (by simp) _ _ E64_71 F65_72 F66_73) [(.ref a67)] [(.ref a64)] 1 g.2.1 (w8 g.1) (w9 g.1) (w6 g.1) (w10 g.1) rfl rfl (by decide) dstr_106 (lenOf pd7 rfl) rfl rfl rfl (by simp) (Nat.le_of_eq rfl) (by decide) (by decide) (by decide) (by decide) rfl ?_
        rintro v74 h74 o74 ⟨d74, rfl, rfl, H74⟩ K74
        have z74 := K74.1
        exact wkP.retA (.object "java/lang/String") [] g.2.1 dstr_109 rfl rfl (by decide) (by decide) (by simp) ⟨a64, d74, _, rfl, rfl, H74⟩
abbrev rrnn : Room := { frames := 0, cells := 0, slots := 0, locals := 0 }
set_option maxRecDepth 65536 in
set_option maxHeartbeats 4000000 in
theorem M_rnn (l : Launch) (Z : State) (a0 : Array Value) (g : G Z a0) (h : Heap) (a m : Addr) : wkM l Z brnn rrnn #[.ref a, .ref m] h [] (fun v h' os => v = some (.ref a) ∧ os = [] ∧ h = h') := by
  refine wkM.of #[.val (.ref a), .val (.ref m)] (plainFor_of_name (by first | (simp [plainName, overriddenIn]; done) | decide +kernel)) (fun m => by first | rfl | (simp [entryFrame, mkF, argsToLocals, Value.category]; done)) ?_
  refine wkP.aloadN 1 drnn_0 rfl rfl rfl ?_
  refine wkP.ifnonnullT 13 drnn_1 (by decide) rfl ?_
  refine wkP.aloadN 14 drnn_13 rfl rfl rfl ?_
  exact wkP.retA (.object "java/lang/Object") [] g.2.1 drnn_14 rfl rfl (by decide) (by decide) (by simp) ⟨rfl, rfl, rfl⟩
abbrev rrn1 : Room := { frames := 0, cells := 0, slots := 0, locals := 0 }
set_option maxRecDepth 65536 in
set_option maxHeartbeats 4000000 in
theorem M_rn1 (l : Launch) (Z : State) (a0 : Array Value) (g : G Z a0) (h : Heap) (a : Addr) : wkM l Z brn1 rrn1 #[.ref a] h [] (fun v h' os => v = some (.ref a) ∧ os = [] ∧ h = h') := by
  refine wkM.of #[.val (.ref a)] (plainFor_of_name (by first | (simp [plainName, overriddenIn]; done) | decide +kernel)) (fun m => by first | rfl | (simp [entryFrame, mkF, argsToLocals, Value.category]; done)) ?_
  refine wkP.aloadN 1 drn1_0 rfl rfl rfl ?_
  refine wkP.ifnonnullT 12 drn1_1 (by decide) rfl ?_
  refine wkP.aloadN 13 drn1_12 rfl rfl rfl ?_
  exact wkP.retA (.object "java/lang/Object") [] g.2.1 drn1_13 rfl rfl (by decide) (by decide) (by simp) ⟨rfl, rfl, rfl⟩
abbrev rsof : Room := { frames := 0, cells := 0, slots := 0, locals := 0 }
set_option maxRecDepth 65536 in
set_option maxHeartbeats 4000000 in
theorem M_sof (l : Launch) (Z : State) (a0 : Array Value) (g : G Z a0) (h : Heap) (eS : Addr) (HS : Sta Z Z.heap "java/util/ImmutableCollections" "EMPTY_SET" "Ljava/util/ImmutableCollections$SetN;" (.ref eS)) : wkM l Z bsof rsof #[] h [] (fun v h' os => v = some (.ref eS) ∧ os = [] ∧ h = h') := by
  refine wkM.of #[] (plainFor_of_name (by first | (simp [plainName, overriddenIn]; done) | decide +kernel)) (fun m => by first | rfl | (simp [entryFrame, mkF, argsToLocals, Value.category]; done)) ?_
  refine wkP.getS 3 (w50 g.1) HS Via.refl dsof_0 rfl ?_
  exact wkP.retA (.object "java/util/Set") [] g.2.1 dsof_3 rfl rfl (by decide) (by decide) (by simp) ⟨rfl, rfl, rfl⟩
abbrev rmof : Room := { frames := 0, cells := 0, slots := 0, locals := 0 }
set_option maxRecDepth 65536 in
set_option maxHeartbeats 4000000 in
theorem M_mof (l : Launch) (Z : State) (a0 : Array Value) (g : G Z a0) (h : Heap) (eM : Addr) (HS : Sta Z Z.heap "java/util/ImmutableCollections" "EMPTY_MAP" "Ljava/util/ImmutableCollections$MapN;" (.ref eM)) : wkM l Z bmof rmof #[] h [] (fun v h' os => v = some (.ref eM) ∧ os = [] ∧ h = h') := by
  refine wkM.of #[] (plainFor_of_name (by first | (simp [plainName, overriddenIn]; done) | decide +kernel)) (fun m => by first | rfl | (simp [entryFrame, mkF, argsToLocals, Value.category]; done)) ?_
  refine wkP.getS 3 (w60 g.1) HS Via.refl dmof_0 rfl ?_
  exact wkP.retA (.object "java/util/Map") [] g.2.1 dmof_3 rfl rfl (by decide) (by decide) (by simp) ⟨rfl, rfl, rfl⟩
def Cal (Z : State) (h : Heap) (a s eS eM : Addr) : Prop := Exa Z h a "com/example/gate_authz/gateauthz/core/Caller" ∧ Fld Z h a "com/example/gate_authz/gateauthz/core/Caller" "userId" "Ljava/lang/String;" .null ∧ Fld Z h a "com/example/gate_authz/gateauthz/core/Caller" "tenantId" "Ljava/lang/String;" .null ∧ Fld Z h a "com/example/gate_authz/gateauthz/core/Caller" "permissions" "Ljava/util/Set;" (.ref eS) ∧ Fld Z h a "com/example/gate_authz/gateauthz/core/Caller" "roles" "Ljava/util/Set;" (.ref eS) ∧ Fld Z h a "com/example/gate_authz/gateauthz/core/Caller" "claims" "Ljava/util/Map;" (.ref eM) ∧ Fld Z h a "com/example/gate_authz/gateauthz/core/Caller" "tokenProblem" "Ljava/lang/String;" (.ref s) ∧ Fld Z h a "com/example/gate_authz/gateauthz/core/Caller" "permissionsProblem" "Ljava/lang/String;" .null
theorem Cal.keep {Z : State} {h h' : Heap} {a s eS eM : Addr} {ws : List Addr} (F : Cal Z h a s eS eM) (K : Keep h h' ws) (q : a ∉ ws) : Cal Z h' a s eS eM := ⟨F.1.keep K, F.2.1.keep K q, F.2.2.1.keep K q, F.2.2.2.1.keep K q, F.2.2.2.2.1.keep K q, F.2.2.2.2.2.1.keep K q, F.2.2.2.2.2.2.1.keep K q, F.2.2.2.2.2.2.2.keep K q⟩
abbrev rcaI : Room := { frames := 1, cells := 0, slots := 0, locals := 12 }
set_option maxRecDepth 65536 in
set_option maxHeartbeats 4000000 in
theorem M_caI (l : Launch) (Z : State) (a0 : Array Value) (g : G Z a0) (h : Heap) (a s : Addr) (eS eM : Addr) (HS : Sta Z Z.heap "java/util/ImmutableCollections" "EMPTY_SET" "Ljava/util/ImmutableCollections$SetN;" (.ref eS)) (HM : Sta Z Z.heap "java/util/ImmutableCollections" "EMPTY_MAP" "Ljava/util/ImmutableCollections$MapN;" (.ref eM)) (v0 v1 v2 v3 v4 v5 v6 : Value) (E : Exa Z h a "com/example/gate_authz/gateauthz/core/Caller") (F0_ : Fld Z h a "com/example/gate_authz/gateauthz/core/Caller" "userId" "Ljava/lang/String;" v0) (F1_ : Fld Z h a "com/example/gate_authz/gateauthz/core/Caller" "tenantId" "Ljava/lang/String;" v1) (F2_ : Fld Z h a "com/example/gate_authz/gateauthz/core/Caller" "permissions" "Ljava/util/Set;" v2) (F3_ : Fld Z h a "com/example/gate_authz/gateauthz/core/Caller" "roles" "Ljava/util/Set;" v3) (F4_ : Fld Z h a "com/example/gate_authz/gateauthz/core/Caller" "claims" "Ljava/util/Map;" v4) (F5_ : Fld Z h a "com/example/gate_authz/gateauthz/core/Caller" "tokenProblem" "Ljava/lang/String;" v5) (F6_ : Fld Z h a "com/example/gate_authz/gateauthz/core/Caller" "permissionsProblem" "Ljava/lang/String;" v6) : wkM l Z bcaI rcaI #[.ref a, .ref s] h [a] (fun v h' os => v = none ∧ os = [] ∧ Cal Z h' a s eS eM) := by
  refine wkM.of #[.val (.ref a), .val (.ref s)] (plainFor_of_name (by first | (simp [plainName, overriddenIn]; done) | decide +kernel)) (fun m => by first | rfl | (simp [entryFrame, mkF, argsToLocals, Value.category]; done)) ?_
  refine wkP.aloadN 1 dcaI_0 rfl rfl rfl ?_
  refine wkP.initO 4 (w41 g.1) (w16 g.1) (w17 g.1) dcaI_1 rfl (by decide) 0 (Nat.le_of_eq rfl) (by decide) rfl ?_
  refine wkP.aloadN 5 dcaI_4 rfl rfl rfl ?_
  refine wkP.anull 6 dcaI_5 rfl ?_
  refine wkP.putF 9 (w42 g.1) F0_ E (Or.inr ⟨(w43 g.1), rfl, rfl⟩) (w31 g.1) (ty := (.object "java/lang/String")) (by decide) rfl rfl dcaI_6 (by simp) rfl ?_
  intro h75 K75 W75
  have z75 := K75.1
  have F75 := Fld.same W75 F0_
  have E75 := Exa.wr W75 E
  have F76 := Fld.other W75 F1_ (Or.inr (slot_ne (t := (.object "java/lang/String")) (t' := (.object "java/lang/String")) (Or.inr (w45 g.1)) (Or.inr (w43 g.1)) (by decide) (by decide) (by decide)))
  have F77 := Fld.other W75 F2_ (Or.inr (slot_ne (t := (.object "java/util/Set")) (t' := (.object "java/lang/String")) (Or.inr (w53 g.1)) (Or.inr (w43 g.1)) (by decide) (by decide) (by decide)))
  have F78 := Fld.other W75 F3_ (Or.inr (slot_ne (t := (.object "java/util/Set")) (t' := (.object "java/lang/String")) (Or.inr (w55 g.1)) (Or.inr (w43 g.1)) (by decide) (by decide) (by decide)))
  have F79 := Fld.other W75 F4_ (Or.inr (slot_ne (t := (.object "java/util/Map")) (t' := (.object "java/lang/String")) (Or.inr (w62 g.1)) (Or.inr (w43 g.1)) (by decide) (by decide) (by decide)))
  have F80 := Fld.other W75 F5_ (Or.inr (slot_ne (t := (.object "java/lang/String")) (t' := (.object "java/lang/String")) (Or.inr (w64 g.1)) (Or.inr (w43 g.1)) (by decide) (by decide) (by decide)))
  have F81 := Fld.other W75 F6_ (Or.inr (slot_ne (t := (.object "java/lang/String")) (t' := (.object "java/lang/String")) (Or.inr (w66 g.1)) (Or.inr (w43 g.1)) (by decide) (by decide) (by decide)))
  refine wkP.aloadN 10 dcaI_9 rfl rfl rfl ?_
  refine wkP.anull 11 dcaI_10 rfl ?_
  refine wkP.putF 14 (w44 g.1) F76 E75 (Or.inr ⟨(w45 g.1), rfl, rfl⟩) (w31 g.1) (ty := (.object "java/lang/String")) (by decide) rfl rfl dcaI_11 (by simp) rfl ?_
  intro h82 K82 W82
  have z82 := K82.1
  have F82 := Fld.same W82 F76
  have E82 := Exa.wr W82 E75
  have F83 := Fld.other W82 F75 (Or.inr (slot_ne (t := (.object "java/lang/String")) (t' := (.object "java/lang/String")) (Or.inr (w43 g.1)) (Or.inr (w45 g.1)) (by decide) (by decide) (by decide)))
  have F84 := Fld.other W82 F77 (Or.inr (slot_ne (t := (.object "java/util/Set")) (t' := (.object "java/lang/String")) (Or.inr (w53 g.1)) (Or.inr (w45 g.1)) (by decide) (by decide) (by decide)))
  have F85 := Fld.other W82 F78 (Or.inr (slot_ne (t := (.object "java/util/Set")) (t' := (.object "java/lang/String")) (Or.inr (w55 g.1)) (Or.inr (w45 g.1)) (by decide) (by decide) (by decide)))
  have F86 := Fld.other W82 F79 (Or.inr (slot_ne (t := (.object "java/util/Map")) (t' := (.object "java/lang/String")) (Or.inr (w62 g.1)) (Or.inr (w45 g.1)) (by decide) (by decide) (by decide)))
  have F87 := Fld.other W82 F80 (Or.inr (slot_ne (t := (.object "java/lang/String")) (t' := (.object "java/lang/String")) (Or.inr (w64 g.1)) (Or.inr (w45 g.1)) (by decide) (by decide) (by decide)))
  have F88 := Fld.other W82 F81 (Or.inr (slot_ne (t := (.object "java/lang/String")) (t' := (.object "java/lang/String")) (Or.inr (w66 g.1)) (Or.inr (w45 g.1)) (by decide) (by decide) (by decide)))
  refine wkP.aloadN 15 dcaI_14 rfl rfl rfl ?_
  refine wkP.callS 18 (M_sof l Z a0 g _ eS HS) [] [(.ref a)] 1 g.2.1 (w46 g.1) (w47 g.1) (w48 g.1) (w49 g.1) (by decide) dcaI_15 (lenOf pd9 rfl) rfl rfl rfl (by simp) (Nat.le_of_eq rfl) (by decide) (by decide) (by decide) (by decide) rfl ?_
  rintro v89 _ o89 ⟨rfl, rfl, rfl⟩ K89
  refine wkP.putF 21 (w52 g.1) F84 E82 (Or.inr ⟨(w53 g.1), rfl, rfl⟩) (w31 g.1) (ty := (.object "java/util/Set")) (by decide) rfl rfl dcaI_18 (by simp) rfl ?_
  intro h90 K90 W90
  have z90 := K90.1
  have F90 := Fld.same W90 F84
  have E90 := Exa.wr W90 E82
  have F91 := Fld.other W90 F83 (Or.inr (slot_ne (t := (.object "java/lang/String")) (t' := (.object "java/util/Set")) (Or.inr (w43 g.1)) (Or.inr (w53 g.1)) (by decide) (by decide) (by decide)))
  have F92 := Fld.other W90 F82 (Or.inr (slot_ne (t := (.object "java/lang/String")) (t' := (.object "java/util/Set")) (Or.inr (w45 g.1)) (Or.inr (w53 g.1)) (by decide) (by decide) (by decide)))
  have F93 := Fld.other W90 F85 (Or.inr (slot_ne (t := (.object "java/util/Set")) (t' := (.object "java/util/Set")) (Or.inr (w55 g.1)) (Or.inr (w53 g.1)) (by decide) (by decide) (by decide)))
  have F94 := Fld.other W90 F86 (Or.inr (slot_ne (t := (.object "java/util/Map")) (t' := (.object "java/util/Set")) (Or.inr (w62 g.1)) (Or.inr (w53 g.1)) (by decide) (by decide) (by decide)))
  have F95 := Fld.other W90 F87 (Or.inr (slot_ne (t := (.object "java/lang/String")) (t' := (.object "java/util/Set")) (Or.inr (w64 g.1)) (Or.inr (w53 g.1)) (by decide) (by decide) (by decide)))
  have F96 := Fld.other W90 F88 (Or.inr (slot_ne (t := (.object "java/lang/String")) (t' := (.object "java/util/Set")) (Or.inr (w66 g.1)) (Or.inr (w53 g.1)) (by decide) (by decide) (by decide)))
  refine wkP.aloadN 22 dcaI_21 rfl rfl rfl ?_
  refine wkP.callS 25 (M_sof l Z a0 g _ eS HS) [] [(.ref a)] 1 g.2.1 (w46 g.1) (w47 g.1) (w48 g.1) (w49 g.1) (by decide) dcaI_22 (lenOf pd9 rfl) rfl rfl rfl (by simp) (Nat.le_of_eq rfl) (by decide) (by decide) (by decide) (by decide) rfl ?_
  rintro v97 _ o97 ⟨rfl, rfl, rfl⟩ K97
  refine wkP.putF 28 (w54 g.1) F93 E90 (Or.inr ⟨(w55 g.1), rfl, rfl⟩) (w31 g.1) (ty := (.object "java/util/Set")) (by decide) rfl rfl dcaI_25 (by simp) rfl ?_
  intro h98 K98 W98
  have z98 := K98.1
  have F98 := Fld.same W98 F93
  have E98 := Exa.wr W98 E90
  have F99 := Fld.other W98 F91 (Or.inr (slot_ne (t := (.object "java/lang/String")) (t' := (.object "java/util/Set")) (Or.inr (w43 g.1)) (Or.inr (w55 g.1)) (by decide) (by decide) (by decide)))
  have F100 := Fld.other W98 F92 (Or.inr (slot_ne (t := (.object "java/lang/String")) (t' := (.object "java/util/Set")) (Or.inr (w45 g.1)) (Or.inr (w55 g.1)) (by decide) (by decide) (by decide)))
  have F101 := Fld.other W98 F90 (Or.inr (slot_ne (t := (.object "java/util/Set")) (t' := (.object "java/util/Set")) (Or.inr (w53 g.1)) (Or.inr (w55 g.1)) (by decide) (by decide) (by decide)))
  have F102 := Fld.other W98 F94 (Or.inr (slot_ne (t := (.object "java/util/Map")) (t' := (.object "java/util/Set")) (Or.inr (w62 g.1)) (Or.inr (w55 g.1)) (by decide) (by decide) (by decide)))
  have F103 := Fld.other W98 F95 (Or.inr (slot_ne (t := (.object "java/lang/String")) (t' := (.object "java/util/Set")) (Or.inr (w64 g.1)) (Or.inr (w55 g.1)) (by decide) (by decide) (by decide)))
  have F104 := Fld.other W98 F96 (Or.inr (slot_ne (t := (.object "java/lang/String")) (t' := (.object "java/util/Set")) (Or.inr (w66 g.1)) (Or.inr (w55 g.1)) (by decide) (by decide) (by decide)))
  refine wkP.aloadN 29 dcaI_28 rfl rfl rfl ?_
  refine wkP.callS 32 (M_mof l Z a0 g _ eM HM) [] [(.ref a)] 1 g.2.1 (w56 g.1) (w57 g.1) (w58 g.1) (w59 g.1) (by decide) dcaI_29 (lenOf pd10 rfl) rfl rfl rfl (by simp) (Nat.le_of_eq rfl) (by decide) (by decide) (by decide) (by decide) rfl ?_
  rintro v105 _ o105 ⟨rfl, rfl, rfl⟩ K105
  refine wkP.putF 35 (w61 g.1) F102 E98 (Or.inr ⟨(w62 g.1), rfl, rfl⟩) (w31 g.1) (ty := (.object "java/util/Map")) (by decide) rfl rfl dcaI_32 (by simp) rfl ?_
  intro h106 K106 W106
  have z106 := K106.1
  have F106 := Fld.same W106 F102
  have E106 := Exa.wr W106 E98
  have F107 := Fld.other W106 F99 (Or.inr (slot_ne (t := (.object "java/lang/String")) (t' := (.object "java/util/Map")) (Or.inr (w43 g.1)) (Or.inr (w62 g.1)) (by decide) (by decide) (by decide)))
  have F108 := Fld.other W106 F100 (Or.inr (slot_ne (t := (.object "java/lang/String")) (t' := (.object "java/util/Map")) (Or.inr (w45 g.1)) (Or.inr (w62 g.1)) (by decide) (by decide) (by decide)))
  have F109 := Fld.other W106 F101 (Or.inr (slot_ne (t := (.object "java/util/Set")) (t' := (.object "java/util/Map")) (Or.inr (w53 g.1)) (Or.inr (w62 g.1)) (by decide) (by decide) (by decide)))
  have F110 := Fld.other W106 F98 (Or.inr (slot_ne (t := (.object "java/util/Set")) (t' := (.object "java/util/Map")) (Or.inr (w55 g.1)) (Or.inr (w62 g.1)) (by decide) (by decide) (by decide)))
  have F111 := Fld.other W106 F103 (Or.inr (slot_ne (t := (.object "java/lang/String")) (t' := (.object "java/util/Map")) (Or.inr (w64 g.1)) (Or.inr (w62 g.1)) (by decide) (by decide) (by decide)))
  have F112 := Fld.other W106 F104 (Or.inr (slot_ne (t := (.object "java/lang/String")) (t' := (.object "java/util/Map")) (Or.inr (w66 g.1)) (Or.inr (w62 g.1)) (by decide) (by decide) (by decide)))
  refine wkP.aloadN 36 dcaI_35 rfl rfl rfl ?_
  refine wkP.aloadN 37 dcaI_36 rfl rfl rfl ?_
  refine wkP.putF 40 (w63 g.1) F111 E106 (Or.inr ⟨(w64 g.1), rfl, rfl⟩) (w31 g.1) (ty := (.object "java/lang/String")) (by decide) rfl rfl dcaI_37 (by simp) rfl ?_
  intro h113 K113 W113
  have z113 := K113.1
  have F113 := Fld.same W113 F111
  have E113 := Exa.wr W113 E106
  have F114 := Fld.other W113 F107 (Or.inr (slot_ne (t := (.object "java/lang/String")) (t' := (.object "java/lang/String")) (Or.inr (w43 g.1)) (Or.inr (w64 g.1)) (by decide) (by decide) (by decide)))
  have F115 := Fld.other W113 F108 (Or.inr (slot_ne (t := (.object "java/lang/String")) (t' := (.object "java/lang/String")) (Or.inr (w45 g.1)) (Or.inr (w64 g.1)) (by decide) (by decide) (by decide)))
  have F116 := Fld.other W113 F109 (Or.inr (slot_ne (t := (.object "java/util/Set")) (t' := (.object "java/lang/String")) (Or.inr (w53 g.1)) (Or.inr (w64 g.1)) (by decide) (by decide) (by decide)))
  have F117 := Fld.other W113 F110 (Or.inr (slot_ne (t := (.object "java/util/Set")) (t' := (.object "java/lang/String")) (Or.inr (w55 g.1)) (Or.inr (w64 g.1)) (by decide) (by decide) (by decide)))
  have F118 := Fld.other W113 F106 (Or.inr (slot_ne (t := (.object "java/util/Map")) (t' := (.object "java/lang/String")) (Or.inr (w62 g.1)) (Or.inr (w64 g.1)) (by decide) (by decide) (by decide)))
  have F119 := Fld.other W113 F112 (Or.inr (slot_ne (t := (.object "java/lang/String")) (t' := (.object "java/lang/String")) (Or.inr (w66 g.1)) (Or.inr (w64 g.1)) (by decide) (by decide) (by decide)))
  refine wkP.aloadN 41 dcaI_40 rfl rfl rfl ?_
  refine wkP.anull 42 dcaI_41 rfl ?_
  refine wkP.putF 45 (w65 g.1) F119 E113 (Or.inr ⟨(w66 g.1), rfl, rfl⟩) (w31 g.1) (ty := (.object "java/lang/String")) (by decide) rfl rfl dcaI_42 (by simp) rfl ?_
  intro h120 K120 W120
  have z120 := K120.1
  have F120 := Fld.same W120 F119
  have E120 := Exa.wr W120 E113
  have F121 := Fld.other W120 F114 (Or.inr (slot_ne (t := (.object "java/lang/String")) (t' := (.object "java/lang/String")) (Or.inr (w43 g.1)) (Or.inr (w66 g.1)) (by decide) (by decide) (by decide)))
  have F122 := Fld.other W120 F115 (Or.inr (slot_ne (t := (.object "java/lang/String")) (t' := (.object "java/lang/String")) (Or.inr (w45 g.1)) (Or.inr (w66 g.1)) (by decide) (by decide) (by decide)))
  have F123 := Fld.other W120 F116 (Or.inr (slot_ne (t := (.object "java/util/Set")) (t' := (.object "java/lang/String")) (Or.inr (w53 g.1)) (Or.inr (w66 g.1)) (by decide) (by decide) (by decide)))
  have F124 := Fld.other W120 F117 (Or.inr (slot_ne (t := (.object "java/util/Set")) (t' := (.object "java/lang/String")) (Or.inr (w55 g.1)) (Or.inr (w66 g.1)) (by decide) (by decide) (by decide)))
  have F125 := Fld.other W120 F118 (Or.inr (slot_ne (t := (.object "java/util/Map")) (t' := (.object "java/lang/String")) (Or.inr (w62 g.1)) (Or.inr (w66 g.1)) (by decide) (by decide) (by decide)))
  have F126 := Fld.other W120 F113 (Or.inr (slot_ne (t := (.object "java/lang/String")) (t' := (.object "java/lang/String")) (Or.inr (w64 g.1)) (Or.inr (w66 g.1)) (by decide) (by decide) (by decide)))
  exact wkP.ret0 [] g.2.1 dcaI_45 rfl (by decide) (by decide) (by simp) ⟨rfl, rfl, E120, F121, F122, F123, F124, F125, F126, F120⟩
abbrev rinv : Room := { frames := 2, cells := 3, slots := 39, locals := 26 }
set_option maxRecDepth 65536 in
set_option maxHeartbeats 4000000 in
theorem M_inv (l : Launch) (Z : State) (a0 : Array Value) (g : G Z a0) (h : Heap) (s : Addr) (eS eM : Addr) (HS : Sta Z Z.heap "java/util/ImmutableCollections" "EMPTY_SET" "Ljava/util/ImmutableCollections$SetN;" (.ref eS)) (HM : Sta Z Z.heap "java/util/ImmutableCollections" "EMPTY_MAP" "Ljava/util/ImmutableCollections$MapN;" (.ref eM)) (E : Exa Z h s "java/lang/String") : wkM l Z binv rinv #[.ref s] h [] (fun v h' os => ∃ a, v = some (.ref a) ∧ h.size ≤ a ∧ os = [] ∧ Cal Z h' a s eS eM) := by
  refine wkM.of #[.val (.ref s)] (plainFor_of_name (by first | (simp [plainName, overriddenIn]; done) | decide +kernel)) (fun m => by first | rfl | (simp [entryFrame, mkF, argsToLocals, Value.category]; done)) ?_
  refine wkP.newO 3 (w30 g.1) (w31 g.1) (w28 g.1) dinv_0 (by decide) (by decide) rfl ?_
  intro h127 a127 g127 l127 K127 E127 D127 U127
  have z127 := K127.1
  have F128 := D127 (Or.inr (w43 g.1)) (ty := (.object "java/lang/String")) (by decide)
  have F129 := D127 (Or.inr (w45 g.1)) (ty := (.object "java/lang/String")) (by decide)
  have F130 := D127 (Or.inr (w53 g.1)) (ty := (.object "java/util/Set")) (by decide)
  have F131 := D127 (Or.inr (w55 g.1)) (ty := (.object "java/util/Set")) (by decide)
  have F132 := D127 (Or.inr (w62 g.1)) (ty := (.object "java/util/Map")) (by decide)
  have F133 := D127 (Or.inr (w64 g.1)) (ty := (.object "java/lang/String")) (by decide)
  have F134 := D127 (Or.inr (w66 g.1)) (ty := (.object "java/lang/String")) (by decide)
  refine wkP.dup 4 dinv_3 rfl rfl ?_
  refine wkP.aloadN 5 dinv_4 rfl rfl rfl ?_
  refine wkP.ldc 7 [(112 : Int32), (114 : Int32), (111 : Int32), (98 : Int32), (108 : Int32), (101 : Int32), (109 : Int32)] 28 (w32 g.1) (sAtoms g.1) g.2.1 (by decide) (by decide) rfl (by decide) dinv_5 (by decide) (by decide) (by decide) (by decide) rfl ?_
  intro h135 a135 b135 K135 E135 C135 V135 A135 ne135
  have z135 := K135.1
  have la135 := exaLt E135
  have lb135 := A135.lt
  refine wkP.callS 10 (M_rnn l Z a0 g _ s a135) [(.ref s), (.ref a135)] [(.ref a127), (.ref a127)] 2 g.2.1 (w33 g.1) (w34 g.1) (w35 g.1) (w36 g.1) (by decide) dinv_7 (lenOf pd11 rfl) rfl rfl rfl (by simp) (Nat.le_of_eq rfl) (by decide) (by decide) (by decide) (by decide) rfl ?_
  rintro v136 _ o136 ⟨rfl, rfl, rfl⟩ K136
  have E_137 := ((E.keep K127).keep K135)
  refine wkP.castY 13 (w37 g.1) (Ins.self E_137) dinv_10 rfl ?_
  have E127_138 := (E127.keep K135)
  have F128_139 := (F128.keep K135 nn0)
  have F129_140 := (F129.keep K135 nn0)
  have F130_141 := (F130.keep K135 nn0)
  have F131_142 := (F131.keep K135 nn0)
  have F132_143 := (F132.keep K135 nn0)
  have F133_144 := (F133.keep K135 nn0)
  have F134_145 := (F134.keep K135 nn0)
  refine wkP.callI 16 (M_caI l Z a0 g _ a127 s eS eM HS HM _ _ _ _ _ _ _ E127_138 F128_139 F129_140 F130_141 F131_142 F132_143 F133_144 F134_145) [(.ref s)] [(.ref a127)] 1 g.2.1 (w38 g.1) (w39 g.1) (w28 g.1) (w40 g.1) rfl rfl (by decide) dinv_13 (lenOf pd12 rfl) rfl rfl rfl (by simp) (Nat.le_of_eq rfl) (by decide) (by decide) (by decide) (by decide) rfl ?_
  rintro v146 h146 o146 ⟨rfl, rfl, H146⟩ K146
  have z146 := K146.1
  exact wkP.retA (.object "com/example/gate_authz/gateauthz/core/Caller") [] g.2.1 dinv_16 rfl rfl (by decide) (by decide) (by simp) ⟨a127, rfl, by omega, rfl, H146⟩
abbrev rgTP : Room := { frames := 0, cells := 0, slots := 0, locals := 0 }
set_option maxRecDepth 65536 in
set_option maxHeartbeats 4000000 in
theorem M_gTP (l : Launch) (Z : State) (a0 : Array Value) (g : G Z a0) (h : Heap) (a s eS eM : Addr) (F : Cal Z h a s eS eM) : wkM l Z bgTP rgTP #[.ref a] h [] (fun v h' os => v = some (.ref s) ∧ os = [] ∧ h = h') := by
  refine wkM.of #[.val (.ref a)] (plainFor_of_name (by first | (simp [plainName, overriddenIn]; done) | decide +kernel)) (fun m => by first | rfl | (simp [entryFrame, mkF, argsToLocals, Value.category]; done)) ?_
  refine wkP.aloadN 1 dgTP_0 rfl rfl rfl ?_
  refine wkP.getF 4 (w63 g.1) F.2.2.2.2.2.2.1 Via.refl dgTP_1 rfl ?_
  exact wkP.retA (.object "java/lang/String") [] g.2.1 dgTP_4 rfl rfl (by decide) (by decide) (by simp) ⟨rfl, rfl, rfl⟩
abbrev rgUI : Room := { frames := 0, cells := 0, slots := 0, locals := 0 }
set_option maxRecDepth 65536 in
set_option maxHeartbeats 4000000 in
theorem M_gUI (l : Launch) (Z : State) (a0 : Array Value) (g : G Z a0) (h : Heap) (a s eS eM : Addr) (F : Cal Z h a s eS eM) : wkM l Z bgUI rgUI #[.ref a] h [] (fun v h' os => v = some .null ∧ os = [] ∧ h = h') := by
  refine wkM.of #[.val (.ref a)] (plainFor_of_name (by first | (simp [plainName, overriddenIn]; done) | decide +kernel)) (fun m => by first | rfl | (simp [entryFrame, mkF, argsToLocals, Value.category]; done)) ?_
  refine wkP.aloadN 1 dgUI_0 rfl rfl rfl ?_
  refine wkP.getF 4 (w42 g.1) F.2.1 Via.refl dgUI_1 rfl ?_
  exact wkP.ret (.object "java/lang/String") [] g.2.1 dgUI_4 rfl rfl (Or.inr (Or.inr (Or.inr (Or.inr ⟨rfl, rfl, rfl⟩)))) (by decide) (by decide) (by simp) ⟨rfl, rfl, rfl⟩
abbrev rgTI : Room := { frames := 0, cells := 0, slots := 0, locals := 0 }
set_option maxRecDepth 65536 in
set_option maxHeartbeats 4000000 in
theorem M_gTI (l : Launch) (Z : State) (a0 : Array Value) (g : G Z a0) (h : Heap) (a s eS eM : Addr) (F : Cal Z h a s eS eM) : wkM l Z bgTI rgTI #[.ref a] h [] (fun v h' os => v = some .null ∧ os = [] ∧ h = h') := by
  refine wkM.of #[.val (.ref a)] (plainFor_of_name (by first | (simp [plainName, overriddenIn]; done) | decide +kernel)) (fun m => by first | rfl | (simp [entryFrame, mkF, argsToLocals, Value.category]; done)) ?_
  refine wkP.aloadN 1 dgTI_0 rfl rfl rfl ?_
  refine wkP.getF 4 (w44 g.1) F.2.2.1 Via.refl dgTI_1 rfl ?_
  exact wkP.ret (.object "java/lang/String") [] g.2.1 dgTI_4 rfl rfl (Or.inr (Or.inr (Or.inr (Or.inr ⟨rfl, rfl, rfl⟩)))) (by decide) (by decide) (by simp) ⟨rfl, rfl, rfl⟩
abbrev rgPP : Room := { frames := 0, cells := 0, slots := 0, locals := 0 }
set_option maxRecDepth 65536 in
set_option maxHeartbeats 4000000 in
theorem M_gPP (l : Launch) (Z : State) (a0 : Array Value) (g : G Z a0) (h : Heap) (a s eS eM : Addr) (F : Cal Z h a s eS eM) : wkM l Z bgPP rgPP #[.ref a] h [] (fun v h' os => v = some .null ∧ os = [] ∧ h = h') := by
  refine wkM.of #[.val (.ref a)] (plainFor_of_name (by first | (simp [plainName, overriddenIn]; done) | decide +kernel)) (fun m => by first | rfl | (simp [entryFrame, mkF, argsToLocals, Value.category]; done)) ?_
  refine wkP.aloadN 1 dgPP_0 rfl rfl rfl ?_
  refine wkP.getF 4 (w65 g.1) F.2.2.2.2.2.2.2 Via.refl dgPP_1 rfl ?_
  exact wkP.ret (.object "java/lang/String") [] g.2.1 dgPP_4 rfl rfl (Or.inr (Or.inr (Or.inr (Or.inr ⟨rfl, rfl, rfl⟩)))) (by decide) (by decide) (by simp) ⟨rfl, rfl, rfl⟩
abbrev risA : Room := { frames := 0, cells := 0, slots := 0, locals := 0 }
set_option maxRecDepth 65536 in
set_option maxHeartbeats 4000000 in
theorem M_isA (l : Launch) (Z : State) (a0 : Array Value) (g : G Z a0) (h : Heap) (a s eS eM : Addr) (F : Cal Z h a s eS eM) : wkM l Z bisA risA #[.ref a] h [] (fun v h' os => v = some (.int 0) ∧ os = [] ∧ h = h') := by
  refine wkM.of #[.val (.ref a)] (plainFor_of_name (by first | (simp [plainName, overriddenIn]; done) | decide +kernel)) (fun m => by first | rfl | (simp [entryFrame, mkF, argsToLocals, Value.category]; done)) ?_
  refine wkP.aloadN 1 disA_0 rfl rfl rfl ?_
  refine wkP.getF 4 (w42 g.1) F.2.1 Via.refl disA_1 rfl ?_
  refine wkP.ifnullT 11 disA_4 (by decide) rfl ?_
  refine wkP.iconst 12 (0 : Int32) disA_11 rfl rfl ?_
  exact wkP.retI .boolean [] g.2.1 disA_12 rfl (by simp) rfl (by decide) (by decide) (by simp) ⟨rfl, rfl, rfl⟩
abbrev rcon : Room := { frames := 1, cells := 0, slots := 0, locals := 12 }
set_option maxRecDepth 65536 in
set_option maxHeartbeats 4000000 in
theorem M_con (l : Launch) (Z : State) (a0 : Array Value) (g : G Z a0) (h : Heap) (e s : Addr) (F : Fld Z h e "java/util/ImmutableCollections$SetN" "size" "I" (.int 0)) : wkM l Z bcon rcon #[.ref e, .ref s] h [] (fun v h' os => v = some (.int 0) ∧ os = [] ∧ h = h') := by
  refine wkM.of #[.val (.ref e), .val (.ref s)] (plainFor_of_name (by first | (simp [plainName, overriddenIn]; done) | decide +kernel)) (fun m => by first | rfl | (simp [entryFrame, mkF, argsToLocals, Value.category]; done)) ?_
  refine wkP.aloadN 1 dcon_0 rfl rfl rfl ?_
  refine wkP.callS 4 (M_rn1 l Z a0 g _ s) [(.ref s)] [] 0 g.2.1 (w112 g.1) (w113 g.1) (w35 g.1) (w114 g.1) (by decide) dcon_1 (lenOf pd13 rfl) rfl rfl rfl (by simp) (Nat.le_of_eq rfl) (by decide) (by decide) (by decide) (by decide) rfl ?_
  rintro v147 _ o147 ⟨rfl, rfl, rfl⟩ K147
  refine wkP.pop 5 dcon_4 rfl rfl ?_
  refine wkP.aloadN 6 dcon_5 rfl rfl rfl ?_
  refine wkP.getF 9 (w115 g.1) F Via.refl dcon_6 rfl ?_
  refine wkP.ifT 24 dcon_9 (show ¬ (0 : Int32) < (0 : Int32) from (by decide)) (by decide) (by decide) ?_
  refine wkP.iconst 25 (0 : Int32) dcon_24 rfl rfl ?_
  exact wkP.retI .boolean [] g.2.1 dcon_25 rfl (by simp) rfl (by decide) (by decide) (by simp) ⟨rfl, rfl, rfl⟩
abbrev rhP : Room := { frames := 2, cells := 0, slots := 0, locals := 25 }
set_option maxRecDepth 65536 in
set_option maxHeartbeats 4000000 in
theorem M_hP (l : Launch) (Z : State) (a0 : Array Value) (g : G Z a0) (h : Heap) (a s eS eM q : Addr) (F : Cal Z h a s eS eM) (ES : Exa Z Z.heap eS "java/util/ImmutableCollections$SetN") (FS : Fld Z Z.heap eS "java/util/ImmutableCollections$SetN" "size" "I" (.int 0)) : wkM l Z bhP rhP #[.ref a, .ref q] h [] (fun v h' os => v = some (.int 0) ∧ os = [] ∧ h = h') := by
  refine wkM.of #[.val (.ref a), .val (.ref q)] (plainFor_of_name (by first | (simp [plainName, overriddenIn]; done) | decide +kernel)) (fun m => by first | rfl | (simp [entryFrame, mkF, argsToLocals, Value.category]; done)) ?_
  refine wkP.old fun hold => ?_
  refine wkP.aloadN 1 dhP_0 rfl rfl rfl ?_
  refine wkP.getF 4 (w52 g.1) F.2.2.2.1 Via.refl dhP_1 rfl ?_
  refine wkP.aloadN 5 dhP_4 rfl rfl rfl ?_
  refine wkP.callF 10 (M_con l Z a0 g _ eS q (FS.ext hold)) [.ref q] [] 0 g.2.1 (ES.ext hold) (w102 g.1) (w103 g.1) (w104 g.1) rfl (w105 g.1) (w106 g.1) (w107 g.1) (w108 g.1) (w109 g.1) (w110 g.1) (w111 g.1) (by decide) dhP_5 (lenOf pd14 rfl) rfl rfl rfl (by simp) (Nat.le_of_eq rfl) (by decide) (by decide) (by decide) (by decide) rfl ?_
  rintro v148 _ o148 ⟨rfl, rfl, rfl⟩ K148
  exact wkP.retI .boolean [] g.2.1 dhP_10 rfl (by simp) rfl (by decide) (by decide) (by simp) ⟨rfl, rfl, rfl⟩
abbrev rhR : Room := { frames := 2, cells := 0, slots := 0, locals := 25 }
set_option maxRecDepth 65536 in
set_option maxHeartbeats 4000000 in
theorem M_hR (l : Launch) (Z : State) (a0 : Array Value) (g : G Z a0) (h : Heap) (a s eS eM q : Addr) (F : Cal Z h a s eS eM) (ES : Exa Z Z.heap eS "java/util/ImmutableCollections$SetN") (FS : Fld Z Z.heap eS "java/util/ImmutableCollections$SetN" "size" "I" (.int 0)) : wkM l Z bhR rhR #[.ref a, .ref q] h [] (fun v h' os => v = some (.int 0) ∧ os = [] ∧ h = h') := by
  refine wkM.of #[.val (.ref a), .val (.ref q)] (plainFor_of_name (by first | (simp [plainName, overriddenIn]; done) | decide +kernel)) (fun m => by first | rfl | (simp [entryFrame, mkF, argsToLocals, Value.category]; done)) ?_
  refine wkP.old fun hold => ?_
  refine wkP.aloadN 1 dhR_0 rfl rfl rfl ?_
  refine wkP.getF 4 (w54 g.1) F.2.2.2.2.1 Via.refl dhR_1 rfl ?_
  refine wkP.aloadN 5 dhR_4 rfl rfl rfl ?_
  refine wkP.callF 10 (M_con l Z a0 g _ eS q (FS.ext hold)) [.ref q] [] 0 g.2.1 (ES.ext hold) (w102 g.1) (w103 g.1) (w104 g.1) rfl (w105 g.1) (w106 g.1) (w107 g.1) (w108 g.1) (w109 g.1) (w110 g.1) (w111 g.1) (by decide) dhR_5 (lenOf pd14 rfl) rfl rfl rfl (by simp) (Nat.le_of_eq rfl) (by decide) (by decide) (by decide) (by decide) rfl ?_
  rintro v149 _ o149 ⟨rfl, rfl, rfl⟩ K149
  exact wkP.retI .boolean [] g.2.1 dhR_10 rfl (by simp) rfl (by decide) (by decide) (by simp) ⟨rfl, rfl, rfl⟩
abbrev reqI : Room := { frames := 0, cells := 0, slots := 0, locals := 0 }
set_option maxRecDepth 65536 in
set_option maxHeartbeats 4000000 in
theorem M_eqI (l : Launch) (Z : State) (a0 : Array Value) (g : G Z a0) (h : Heap) (a : Addr) : wkM l Z beqI reqI #[.ref a, .ref a] h [] (fun v h' os => v = some (.int 1) ∧ os = [] ∧ h = h') := by
  refine wkM.of #[.val (.ref a), .val (.ref a), .unset] (plainFor_of_name (by first | (simp [plainName, overriddenIn]; done) | decide +kernel)) (fun m => by first | rfl | (simp [entryFrame, mkF, argsToLocals, Value.category]; done)) ?_
  refine wkP.aloadN 1 deqI_0 rfl rfl rfl ?_
  refine wkP.aloadN 2 deqI_1 rfl rfl rfl ?_
  refine wkP.acmp 5 true deqI_2 rfl rfl (by simp) (by decide) (by decide) ?_
  refine wkP.iconst 6 (1 : Int32) deqI_5 rfl rfl ?_
  exact wkP.retI .boolean [] g.2.1 deqI_6 rfl (by simp) rfl (by decide) (by decide) (by simp) ⟨rfl, rfl, rfl⟩
set_option maxRecDepth 65536 in
set_option maxHeartbeats 4000000 in
theorem M_law (l : Launch) (Z : State) (a0 : Array Value) (g : G Z a0) (h : Heap) (i0 i1 i2 i3 i4 i5 : Int32) : wkM l Z blaw room_1 #[.int i0, .int i1, .int i2, .int i3, .int i4, .int i5] h [] (fun v h' os => v = some (.int 1)) := by
  refine wkM.of #[.val (.int i0), .val (.int i1), .val (.int i2), .val (.int i3), .val (.int i4), .val (.int i5), .unset, .unset, .unset, .unset] (plainFor_of_name (by first | (simp [plainName, overriddenIn]; done) | decide +kernel)) (fun m => by first | rfl | (simp [entryFrame, mkF, argsToLocals, Value.category]; done)) ?_
  obtain ⟨eS, HS, ES, FS⟩ := g.2.2.2.1
  obtain ⟨eM, HM⟩ := g.2.2.2.2
  refine wkP.iloadN 1 at_0 rfl rfl ?_
  refine wkP.iloadN 2 at_1 rfl rfl ?_
  refine wkP.iloadN 3 at_2 rfl rfl ?_
  refine wkP.iloadN 4 at_3 rfl rfl ?_
  refine wkP.callS 7 (M_str l Z a0 g _ i0 i1 i2 i3) [(.int i0), (.int i1), (.int i2), (.int i3)] [] 0 g.2.1 (w0 g.1) (w1 g.1) (w2 g.1) (w3 g.1) (by decide) at_4 (lenOf pd15 rfl) rfl rfl rfl (by simp) (Nat.le_of_eq rfl) (by decide) (by decide) (by decide) (by decide) rfl ?_
  rintro v150 h150 o150 ⟨s, t, cs, rfl, rfl, H1⟩ K150
  have z150 := K150.1
  refine wkP.astore 9 #[.val (.int i0), .val (.int i1), .val (.int i2), .val (.int i3), .val (.int i4), .val (.int i5), .val (.ref s), .unset, .unset, .unset] at_7 rfl rfl rfl ?_
  refine wkP.iload 11 at_9 rfl rfl ?_
  refine wkP.iload 13 at_11 rfl rfl ?_
  refine wkP.iloadN 14 at_13 rfl rfl ?_
  refine wkP.iloadN 15 at_14 rfl rfl ?_
  refine wkP.callS 18 (M_str l Z a0 g _ i4 i5 i3 i2) [(.int i4), (.int i5), (.int i3), (.int i2)] [] 0 g.2.1 (w0 g.1) (w1 g.1) (w2 g.1) (w3 g.1) (by decide) at_15 (lenOf pd15 rfl) rfl rfl rfl (by simp) (Nat.le_of_eq rfl) (by decide) (by decide) (by decide) (by decide) rfl ?_
  rintro v151 h151 o151 ⟨s2, t2, cs2, rfl, rfl, H2⟩ K151
  have z151 := K151.1
  refine wkP.astore 20 #[.val (.int i0), .val (.int i1), .val (.int i2), .val (.int i3), .val (.int i4), .val (.int i5), .val (.ref s), .val (.ref s2), .unset, .unset] at_18 rfl rfl rfl ?_
  refine wkP.aload 22 at_20 rfl rfl rfl ?_
  have H1_152 := (H1.keep K151 nn0 nn0)
  refine wkP.callS 25 (M_inv l Z a0 g _ s eS eM HS HM H1_152.1) [(.ref s)] [] 0 g.2.1 (w26 g.1) (w27 g.1) (w28 g.1) (w29 g.1) (by decide) at_22 (lenOf pd16 rfl) rfl rfl rfl (by simp) (Nat.le_of_eq rfl) (by decide) (by decide) (by decide) (by decide) rfl ?_
  rintro v153 h153 o153 ⟨c, rfl, gc, rfl, CC⟩ K153
  have z153 := K153.1
  have H1_154 := (H1_152.keep K153 nn0 nn0)
  refine wkP.astore 27 #[.val (.int i0), .val (.int i1), .val (.int i2), .val (.int i3), .val (.int i4), .val (.int i5), .val (.ref s), .val (.ref s2), .val (.ref c), .unset] at_25 rfl rfl rfl ?_
  refine wkP.aload 29 at_27 rfl rfl rfl ?_
  refine wkP.callV 32 (M_gTP l Z a0 g _ c s eS eM CC) [] [] 0 g.2.1 CC.1 (wkNFs (w70 g.1)) (w67 g.1) (w68 g.1) (w70 g.1) (w69 g.1) (w28 g.1) (w71 g.1) (by decide) at_29 (lenOf pd17 rfl) rfl rfl rfl (by simp) (Nat.le_of_eq rfl) (by decide) (by decide) (by decide) (by decide) rfl ?_
  rintro v155 _ o155 ⟨rfl, rfl, rfl⟩ K155
  refine wkP.astore 34 #[.val (.int i0), .val (.int i1), .val (.int i2), .val (.int i3), .val (.int i4), .val (.int i5), .val (.ref s), .val (.ref s2), .val (.ref c), .val (.ref s)] at_32 rfl rfl rfl ?_
  refine wkP.aload 36 at_34 rfl rfl rfl ?_
  refine wkP.ifnullF 39 at_36 rfl ?_
  refine wkP.aload 41 at_39 rfl rfl rfl ?_
  refine wkP.aload 43 at_41 rfl rfl rfl ?_
  refine wkP.callV 46 (M_eqI l Z a0 g _ s) [(.ref s)] [] 0 g.2.1 H1_154.1 (wkNFs (w75 g.1)) (w72 g.1) (w73 g.1) (w75 g.1) (w74 g.1) (w6 g.1) (w76 g.1) (by decide) at_43 (lenOf pd14 rfl) rfl rfl rfl (by simp) (Nat.le_of_eq rfl) (by decide) (by decide) (by decide) (by decide) rfl ?_
  rintro v156 _ o156 ⟨rfl, rfl, rfl⟩ K156
  refine wkP.ifF 49 at_46 (show ¬ ((1 : Int32) = (0 : Int32)) from (by decide)) rfl ?_
  refine wkP.aload 51 at_49 rfl rfl rfl ?_
  refine wkP.callV 54 (M_isA l Z a0 g _ c s eS eM CC) [] [] 0 g.2.1 CC.1 (wkNFs (w80 g.1)) (w77 g.1) (w78 g.1) (w80 g.1) (w79 g.1) (w28 g.1) (w81 g.1) (by decide) at_51 (lenOf pd18 rfl) rfl rfl rfl (by simp) (Nat.le_of_eq rfl) (by decide) (by decide) (by decide) (by decide) rfl ?_
  rintro v157 _ o157 ⟨rfl, rfl, rfl⟩ K157
  refine wkP.ifF 57 at_54 (show ¬ (¬ (0 : Int32) = (0 : Int32)) from (by decide)) rfl ?_
  refine wkP.aload 59 at_57 rfl rfl rfl ?_
  refine wkP.callV 62 (M_gUI l Z a0 g _ c s eS eM CC) [] [] 0 g.2.1 CC.1 (wkNFs (w85 g.1)) (w82 g.1) (w83 g.1) (w85 g.1) (w84 g.1) (w28 g.1) (w86 g.1) (by decide) at_59 (lenOf pd17 rfl) rfl rfl rfl (by simp) (Nat.le_of_eq rfl) (by decide) (by decide) (by decide) (by decide) rfl ?_
  rintro v158 _ o158 ⟨rfl, rfl, rfl⟩ K158
  refine wkP.ifnonnullF 65 at_62 rfl ?_
  refine wkP.aload 67 at_65 rfl rfl rfl ?_
  refine wkP.callV 70 (M_gTI l Z a0 g _ c s eS eM CC) [] [] 0 g.2.1 CC.1 (wkNFs (w90 g.1)) (w87 g.1) (w88 g.1) (w90 g.1) (w89 g.1) (w28 g.1) (w91 g.1) (by decide) at_67 (lenOf pd17 rfl) rfl rfl rfl (by simp) (Nat.le_of_eq rfl) (by decide) (by decide) (by decide) (by decide) rfl ?_
  rintro v159 _ o159 ⟨rfl, rfl, rfl⟩ K159
  refine wkP.ifnonnullF 73 at_70 rfl ?_
  refine wkP.aload 75 at_73 rfl rfl rfl ?_
  refine wkP.callV 78 (M_gPP l Z a0 g _ c s eS eM CC) [] [] 0 g.2.1 CC.1 (wkNFs (w95 g.1)) (w92 g.1) (w93 g.1) (w95 g.1) (w94 g.1) (w28 g.1) (w96 g.1) (by decide) at_75 (lenOf pd17 rfl) rfl rfl rfl (by simp) (Nat.le_of_eq rfl) (by decide) (by decide) (by decide) (by decide) rfl ?_
  rintro v160 _ o160 ⟨rfl, rfl, rfl⟩ K160
  refine wkP.ifnonnullF 81 at_78 rfl ?_
  refine wkP.aload 83 at_81 rfl rfl rfl ?_
  refine wkP.aload 85 at_83 rfl rfl rfl ?_
  refine wkP.callV 88 (M_hP l Z a0 g _ c s eS eM s CC ES FS) [(.ref s)] [] 0 g.2.1 CC.1 (wkNFs (w100 g.1)) (w97 g.1) (w98 g.1) (w100 g.1) (w99 g.1) (w28 g.1) (w101 g.1) (by decide) at_85 (lenOf pd19 rfl) rfl rfl rfl (by simp) (Nat.le_of_eq rfl) (by decide) (by decide) (by decide) (by decide) rfl ?_
  rintro v161 _ o161 ⟨rfl, rfl, rfl⟩ K161
  refine wkP.ifF 91 at_88 (show ¬ (¬ (0 : Int32) = (0 : Int32)) from (by decide)) rfl ?_
  refine wkP.aload 93 at_91 rfl rfl rfl ?_
  refine wkP.aload 95 at_93 rfl rfl rfl ?_
  refine wkP.callV 98 (M_hP l Z a0 g _ c s eS eM s2 CC ES FS) [(.ref s2)] [] 0 g.2.1 CC.1 (wkNFs (w100 g.1)) (w97 g.1) (w98 g.1) (w100 g.1) (w99 g.1) (w28 g.1) (w101 g.1) (by decide) at_95 (lenOf pd19 rfl) rfl rfl rfl (by simp) (Nat.le_of_eq rfl) (by decide) (by decide) (by decide) (by decide) rfl ?_
  rintro v162 _ o162 ⟨rfl, rfl, rfl⟩ K162
  refine wkP.ifF 101 at_98 (show ¬ (¬ (0 : Int32) = (0 : Int32)) from (by decide)) rfl ?_
  refine wkP.aload 103 at_101 rfl rfl rfl ?_
  refine wkP.aload 105 at_103 rfl rfl rfl ?_
  refine wkP.callV 108 (M_hR l Z a0 g _ c s eS eM s CC ES FS) [(.ref s)] [] 0 g.2.1 CC.1 (wkNFs (w120 g.1)) (w117 g.1) (w118 g.1) (w120 g.1) (w119 g.1) (w28 g.1) (w121 g.1) (by decide) at_105 (lenOf pd19 rfl) rfl rfl rfl (by simp) (Nat.le_of_eq rfl) (by decide) (by decide) (by decide) (by decide) rfl ?_
  rintro v163 _ o163 ⟨rfl, rfl, rfl⟩ K163
  refine wkP.ifF 111 at_108 (show ¬ (¬ (0 : Int32) = (0 : Int32)) from (by decide)) rfl ?_
  refine wkP.aload 113 at_111 rfl rfl rfl ?_
  refine wkP.aload 115 at_113 rfl rfl rfl ?_
  refine wkP.callV 118 (M_hR l Z a0 g _ c s eS eM s2 CC ES FS) [(.ref s2)] [] 0 g.2.1 CC.1 (wkNFs (w120 g.1)) (w117 g.1) (w118 g.1) (w120 g.1) (w119 g.1) (w28 g.1) (w121 g.1) (by decide) at_115 (lenOf pd19 rfl) rfl rfl rfl (by simp) (Nat.le_of_eq rfl) (by decide) (by decide) (by decide) (by decide) rfl ?_
  rintro v164 _ o164 ⟨rfl, rfl, rfl⟩ K164
  refine wkP.ifF 121 at_118 (show ¬ (¬ (0 : Int32) = (0 : Int32)) from (by decide)) rfl ?_
  refine wkP.iconst 122 (1 : Int32) at_121 rfl rfl ?_
  refine wkP.goto 126 at_122 (by decide) (by decide) ?_
  exact wkP.retI .boolean [] g.2.1 at_126 rfl (by simp) rfl (by decide) (by decide) (by simp) rfl
theorem own_EW {Z : State} {a0 : Array Value} (hw : ∀ d ∈ tables_1, d.before a0 Z = true) : EW Z a0 EL := by
  exact (EW.cons (text := "problem") (w32 hw) (by decide) (EW.cons (text := "") (w18 hw) (by decide) EW.nil))
set_option maxRecDepth 65536 in
set_option maxHeartbeats 4000000 in
theorem comes_1 {Post : Tables → Env → Array Value → State → Outcome → State → Prop} (hpost : ∀ tb e args s v u, (limb_1_1.after args s (.returned v) u = true ∧ limb_1_2.after args s (.returned v) u = true ∧ True) → FramedW s (.returned v) u (Jvm.fieldLocs frame_1_writes args s ++ Jvm.arrayLocs frame_1_arrays args s ++ Jvm.staticLocs frame_1_statics s) 32 2176 → Post tb e args s (.returned v) u) :
    ArmFor flags0 classFile x code maxLocals ret World_1 tables_1 room_1 Calls_1 rest_1 Pre_1 Post := by
  intro l hfl _ _ p e ha hc hk s m args below hf hA hF happ hP
  obtain ⟨hcalls, hrest, hpre⟩ := hP
  obtain ⟨-, -, -, hnamed, -, -, -, hat⟩ := (Spec.applies_iff hf).mp happ
  obtain ⟨hg, hn⟩ := and_e (Cond.before_iff.mp (show (Jvm.Cond.and given_1 narrow_1).before args s = true from hpre))
  obtain ⟨q0, hg⟩ := and_e hg
  obtain ⟨q1, hg⟩ := and_e hg
  obtain ⟨q2, hg⟩ := and_e hg
  obtain ⟨q3, hg⟩ := and_e hg
  obtain ⟨q4, hg⟩ := and_e hg
  obtain ⟨q5, hg⟩ := and_e hg
  have q6 := hg
  obtain ⟨u0, u1, u2, u3, u4, u5, rfl⟩ : ∃ u0 u1 u2 u3 u4 u5 : Value, args = #[u0, u1, u2, u3, u4, u5] := by
    have hs : args.size = 6 := by simpa [Cond.value, given_1] using q0
    obtain ⟨L⟩ := args
    match L, hs with
    | [u0, u1, u2, u3, u4, u5], _ => exact ⟨u0, u1, u2, u3, u4, u5, rfl⟩
  have hw := fun d (hd : d ∈ tables_1) => atoms_spec (ws := Jvm.Cond.code x code maxLocals ret :: tables_1) hat d (List.mem_cons_of_mem _ hd)
  obtain ⟨hsets, hown0⟩ := atoms_of _ (rest_1_c_eq ▸ (show rest_1_c.before _ s = true from hrest))
  obtain ⟨i0, e0⟩ := is_v q1
  obtain rfl : u0 = (.int i0) := Option.some.inj e0
  obtain ⟨i1, e1⟩ := is_v q2
  obtain rfl : u1 = (.int i1) := Option.some.inj e1
  obtain ⟨i2, e2⟩ := is_v q3
  obtain rfl : u2 = (.int i2) := Option.some.inj e2
  obtain ⟨i3, e3⟩ := is_v q4
  obtain rfl : u3 = (.int i3) := Option.some.inj e3
  obtain ⟨i4, e4⟩ := is_v q5
  obtain rfl : u4 = (.int i4) := Option.some.inj e4
  obtain ⟨i5, e5⟩ := is_v q6
  obtain rfl : u5 = (.int i5) := Option.some.inj e5
  have n3 := not_v (Cond.before_iff.mp (hsets _ (List.mem_of_getElem? (i := 16) rfl)))
  obtain ⟨zc, ezc⟩ := is_v (Cond.before_iff.mp (hsets _ (List.mem_of_getElem? (i := 15) rfl)))
  have S8 : Sta s s.heap "java/lang/String" "COMPACT_STRINGS" "Z" (.int zc) := Sta.start ezc (Or.inl (hsets _ (List.mem_of_getElem? (i := 14) rfl)))
  have c13 : ¬ (zc = (0 : Int32)) := gotF (Cond.eq_ints ezc (Term.int_eval (0))) n3
  obtain ⟨eS, eeS⟩ := exa_v (Cond.before_iff.mp (hsets _ (List.mem_of_getElem? (i := 2) rfl)))
  have HS : Sta s s.heap "java/util/ImmutableCollections" "EMPTY_SET" "Ljava/util/ImmutableCollections$SetN;" (.ref eS) := Sta.start eeS (Or.inl (hsets _ (List.mem_of_getElem? (i := 1) rfl)))
  have ES : Exa s s.heap eS "java/util/ImmutableCollections$SetN" := Exa.start eeS (Cond.before_iff.mp (hsets _ (List.mem_of_getElem? (i := 2) rfl)))
  have FS : Fld s s.heap eS "java/util/ImmutableCollections$SetN" "size" "I" (.int 0) := Fld.start (by have q := Cond.eq_int (hsets _ (List.mem_of_getElem? (i := 6) rfl)) rfl; rw [fld_at eeS] at q; exact q)
  obtain ⟨eM, eeM⟩ := exa_v (Cond.before_iff.mp (hsets _ (List.mem_of_getElem? (i := 9) rfl)))
  have HM : Sta s s.heap "java/util/ImmutableCollections" "EMPTY_MAP" "Ljava/util/ImmutableCollections$MapN;" (.ref eM) := Sta.start eeM (Or.inl (hsets _ (List.mem_of_getElem? (i := 8) rfl)))
  have hE := own_EW hw
  have hCH : CHv s EL s.vm s.heap := CHv.start hE (fun q hq => hcalls.1 q hq) (hsets _ (List.mem_of_getElem? (i := 16) rfl)) (sAtoms hw _ (by simp [Bundle.stringAtoms])) (sAtoms hw _ (by simp [Bundle.stringAtoms, Bundle.sN]))
  obtain ⟨b1, b2, b3, b4, b5, b6, b7, -⟩ := (Spec.appliesLoose_iff hf).mp ((Spec.applies_iff_loose hf).mp happ).1
  have hcode := atoms_spec (ws := Jvm.Cond.code x code maxLocals ret :: tables_1) hat _ (List.mem_cons_self ..)
  have hap : (head1 [Jvm.Cond.code x code maxLocals ret] room_1).appliesLoose x e.platform s = true := (Spec.appliesLoose_iff hf).mpr ⟨b1, b2, b3, b4, b5, b6, b7, by show (Jvm.Cond.and _ .tt).before _ s = true; rw [Cond.before_and, hcode]; rfl⟩
  obtain ⟨n, o, h1, h2, h3, v, L, rfl, ⟨os, rfl, -, N, -, -⟩, -, hq⟩ := M_law l s _ ⟨hw, hE, ⟨zc, S8, c13⟩, ⟨eS, HS, ES, FS⟩, ⟨eM, HM⟩⟩ s.heap i0 i1 i2 i3 i4 i5 (Old.start s) (by simp) p e ha hc hk s m _ below hf hap ⟨rfl, State.Warmed39.refl s, rfl, hCH, by simp⟩ trivial
  exact ⟨n, _, h1, h2, h3, hpost _ _ _ _ _ _ ⟨Cond.after_iff.mpr rfl, Cond.after_iff.mpr (eq_i res_at (Term.int_eval (1)) rfl), trivial⟩ ⟨hq.1, hq.2.1, hq.2.2.1, (hq.2.2.2.sift fun y hy => Or.inr (N y hy)).mono (by decide) (by decide)⟩⟩
theorem main_1_1 : Claimed_1_1 := comes_1 fun _ _ _ _ _ _ h hF => ⟨h.1, hF⟩
theorem main_1_2 : Claimed_1_2 := comes_1 fun _ _ _ _ _ _ h hF => ⟨h.2.1, hF⟩
end Jvm.Pilot.@@N@@
namespace Jvm.Pilot.@@N@@
open Jvm Jvm.ClassFile Sem Op Lib Jvm.Free Jvm.Stand Jvm.Pilot.@@N@@.Jvm.D
/-! MADE BY PROGRAM (witnessworld.py) out of the Statement's table words and the real class files: 34 classes; the members and pool entries that the words name. The judged class is class 1, her method 1. -/
namespace start1
open Jvm.ClassFile
def u (s : String) : CpInfo := .utf8 (stringToUtf16 s)
/-- a pool by its gaps: so many unusable entries, then the entry; so many at the end -/
def gap : Nat → List CpInfo → List CpInfo
  | 0, r => r
  | n + 1, r => .unusable :: gap n r
def poolList (es : List (Nat × CpInfo)) (last : Nat) : List CpInfo := es.foldr (fun e r => gap e.1 (e.2 :: r)) (gap last [])
def pool (es : List (Nat × CpInfo)) (last : Nat) : Array CpInfo := ⟨poolList es last⟩
def fileOf (pool : Array CpInfo) (this : Nat) (attrs : Array Attribute := #[]) (ms : Array MethodInfo := #[]) (fl : Nat := 33) (sup : Nat := 0) (ifs : Array Nat := #[]) (fds : Array FieldInfo := #[]) : ClassFile where
  minorVersion := 0
  majorVersion := 65
  constantPool := pool
  accessFlags := fl
  thisClass := this
  superClass := sup
  interfaces := ifs
  fields := fds
  methods := ms
  attributes := attrs
def plain (name : String) (sup : Option ClassId) : Class where
  name := name
  kind := .ordinary
  loader := none
  accessFlags := 33
  super := sup
  interfaces := #[]
  cf := none
  fields := #[]
  methods := #[]
  instanceTypes := #[]
  staticTypes := #[]
  resolved := #[]
  callSites := []
  init := .initialized
  statics := none
  mirror := none

def pool0 : Array CpInfo := pool [(5, u "<init>"), (0, u "()V"), (1, .class_ 10), (1, u "java/lang/Object")] 113

def k0c0 : Code := { maxStack := 0, maxLocals := 1, code := object_method_1_code, exceptionTable := #[], attributes := #[] }
def k0m0 : Method := { name := "<init>", desc := "()V", sig := { parameters := [], returnType := none }, accessFlags := 1, code := some k0c0 }
/-- java/lang/Object -/
def k0 : Class := { plain "java/lang/Object" none with
  accessFlags := 33
  interfaces := #[]
  cf := some (fileOf pool0 8 #[] #[{ accessFlags := 1, nameIndex := 5, descriptorIndex := 6, attributes := #[] }] 33 0 #[] #[])
  fields := #[]
  methods := #[k0m0]
  instanceTypes := #[]
  staticTypes := #[]
  resolved := Array.replicate 124 none
  statics := none }

def pool1 : Array CpInfo := pool [(2, .class_ 4), (1, u "java/lang/Object"), (0, u "<init>"), (0, u "()V"), (0, .methodref 8 9), (0, .class_ 10), (0, .nameAndType 11 12), (0, u "com/example/gate_authz/gateauthz/core/CallerInvalidTokenPinLaw"), (0, u "str"), (0, u "(IIII)Ljava/lang/String;"), (0, .methodref 14 15), (0, .class_ 16), (0, .nameAndType 17 18), (0, u "com/example/gate_authz/gateauthz/core/Caller"), (0, u "invalidToken"), (0, u "(Ljava/lang/String;)Lcom/example/gate_authz/gateauthz/core/Caller;"), (0, .methodref 14 20), (0, .nameAndType 21 22), (0, u "getTokenProblem"), (0, u "()Ljava/lang/String;"), (0, .methodref 24 25), (0, .class_ 26), (0, .nameAndType 27 28), (0, u "java/lang/String"), (0, u "equals"), (0, u "(Ljava/lang/Object;)Z"), (0, .methodref 14 30), (0, .nameAndType 31 32), (0, u "isAuthenticated"), (0, u "()Z"), (0, .methodref 14 34), (0, .nameAndType 35 22), (0, u "getUserId"), (0, .methodref 14 37), (0, .nameAndType 38 22), (0, u "getTenantId"), (0, .methodref 14 40), (0, .nameAndType 41 22), (0, u "getPermissionsProblem"), (0, .methodref 14 43), (0, .nameAndType 44 45), (0, u "hasPermission"), (0, u "(Ljava/lang/String;)Z"), (0, .methodref 14 47), (0, .nameAndType 48 45), (0, u "hasRole"), (0, .methodref 24 50), (0, .nameAndType 5 51), (0, u "([C)V"), (0, .methodref 24 53), (0, .nameAndType 54 55), (0, u "valueOf"), (0, u "(C)Ljava/lang/String;"), (2, u "law"), (0, u "(IIIIII)Z")] 3

def k1m0 : Method := { name := "<init>", desc := "()V", sig := { parameters := [], returnType := none }, accessFlags := 1, code := none }
def k1c1 : Code := { maxStack := 4, maxLocals := 10, code := code, exceptionTable := #[], attributes := #[] }
def k1m1 : Method := { name := "law", desc := "(IIIIII)Z", sig := { parameters := [.int, .int, .int, .int, .int, .int], returnType := some .boolean }, accessFlags := 9, code := some k1c1 }
def k1c2 : Code := { maxStack := 6, maxLocals := 8, code := method_3_code, exceptionTable := #[], attributes := #[] }
def k1m2 : Method := { name := "str", desc := "(IIII)Ljava/lang/String;", sig := { parameters := [.int, .int, .int, .int], returnType := some (.object "java/lang/String") }, accessFlags := 10, code := some k1c2 }
/-- com/example/gate_authz/gateauthz/core/CallerInvalidTokenPinLaw -/
def k1 : Class := { plain "com/example/gate_authz/gateauthz/core/CallerInvalidTokenPinLaw" (some 0) with
  accessFlags := 49
  interfaces := #[]
  cf := some (fileOf pool1 8 #[] #[{ accessFlags := 1, nameIndex := 5, descriptorIndex := 6, attributes := #[] }, { accessFlags := 9, nameIndex := 58, descriptorIndex := 59, attributes := #[] }, { accessFlags := 10, nameIndex := 11, descriptorIndex := 12, attributes := #[] }] 49 2 #[] #[])
  fields := #[]
  methods := #[k1m0, k1m1, k1m2]
  instanceTypes := #[]
  staticTypes := #[]
  resolved := Array.replicate 63 none
  statics := none }

def pool2 : Array CpInfo := pool [(1, .class_ 2), (0, u "java/io/Serializable"), (0, .class_ 4), (0, u "java/lang/Object")] 2

/-- java/io/Serializable -/
def k2 : Class := { plain "java/io/Serializable" (some 0) with
  accessFlags := 1537
  interfaces := #[]
  cf := some (fileOf pool2 1 #[] #[] 1537 3 #[] #[])
  fields := #[]
  methods := #[]
  instanceTypes := #[]
  staticTypes := #[]
  resolved := Array.replicate 7 none
  statics := none }

def pool3 : Array CpInfo := pool [(1, .class_ 2), (0, u "java/lang/Comparable"), (0, .class_ 4), (0, u "java/lang/Object")] 7

/-- java/lang/Comparable -/
def k3 : Class := { plain "java/lang/Comparable" (some 0) with
  accessFlags := 1537
  interfaces := #[]
  cf := some (fileOf pool3 1 #[] #[] 1537 3 #[] #[])
  fields := #[]
  methods := #[]
  instanceTypes := #[]
  staticTypes := #[]
  resolved := Array.replicate 12 none
  statics := none }

def pool4 : Array CpInfo := pool [(2, .class_ 4), (1, u "java/lang/CharSequence"), (42, .class_ 48), (0, u "java/lang/CharSequence$1CodePointIterator"), (10, .class_ 60), (0, u "java/lang/CharSequence$1CharIterator"), (5, .class_ 67), (0, u "java/lang/Object")] 63

/-- java/lang/CharSequence -/
def k4 : Class := { plain "java/lang/CharSequence" (some 0) with
  accessFlags := 1537
  interfaces := #[]
  cf := some (fileOf pool4 2 #[.nestMembers #[47, 59]] #[] 1537 66 #[] #[])
  fields := #[]
  methods := #[]
  instanceTypes := #[]
  staticTypes := #[]
  resolved := Array.replicate 131 none
  statics := none }

def pool5 : Array CpInfo := pool [(1, .class_ 2), (0, u "java/lang/constant/Constable"), (0, .class_ 4), (0, u "java/lang/Object")] 6

/-- java/lang/constant/Constable -/
def k5 : Class := { plain "java/lang/constant/Constable" (some 0) with
  accessFlags := 1537
  interfaces := #[]
  cf := some (fileOf pool5 1 #[] #[] 1537 3 #[] #[])
  fields := #[]
  methods := #[]
  instanceTypes := #[]
  staticTypes := #[]
  resolved := Array.replicate 11 none
  statics := none }

def pool6 : Array CpInfo := pool [(1, .class_ 2), (0, u "java/lang/constant/ConstantDesc"), (0, .class_ 4), (0, u "java/lang/Object")] 32

/-- java/lang/constant/ConstantDesc -/
def k6 : Class := { plain "java/lang/constant/ConstantDesc" (some 0) with
  accessFlags := 1537
  interfaces := #[]
  cf := some (fileOf pool6 1 #[] #[] 1537 3 #[] #[])
  fields := #[]
  methods := #[]
  instanceTypes := #[]
  staticTypes := #[]
  resolved := Array.replicate 37 none
  statics := none }

def pool7 : Array CpInfo := pool [(1, .methodref 2 3), (0, .class_ 4), (0, .nameAndType 5 6), (0, u "java/lang/Object"), (0, u "<init>"), (0, u "()V"), (0, .string 8), (0, u ""), (0, .fieldref 10 11), (0, .class_ 12), (0, .nameAndType 13 14), (0, u "java/lang/String"), (0, u "value"), (0, u "[B"), (0, .fieldref 10 16), (0, .nameAndType 17 18), (0, u "coder"), (0, u "B"), (2, u "hash"), (0, u "I"), (2, u "hashIsZero"), (0, u "Z"), (0, .methodref 10 28), (0, .nameAndType 5 29), (0, u "([CIILjava/lang/Void;)V"), (8, .fieldref 10 39), (0, .nameAndType 40 26), (0, u "COMPACT_STRINGS"), (1, .class_ 44), (1, u "java/lang/StringUTF16"), (0, u "compress"), (1, .methodref 42 48), (0, .nameAndType 49 50), (0, u "coderFromArrayLen"), (0, u "([BI)B"), (2, u "toBytes"), (53, .class_ 109), (1, u "java/lang/StringLatin1"), (67, .methodref 42 178), (0, .nameAndType 45 179), (0, u "([CII)[B"), (29, .methodref 10 210), (0, .nameAndType 5 211), (0, u "([BB)V"), (157, u "(C)Z"), (173, u "equals"), (29, u "(Ljava/lang/Object;)Z"), (1, .class_ 576), (0, u "java/lang/CharSequence"), (22, u "CASE_INSENSITIVE_ORDER"), (0, u "Ljava/util/Comparator;"), (181, u "valueOf"), (0, u "(C)Ljava/lang/String;"), (226, u "([C)V"), (4, .methodref 107 1016), (0, .nameAndType 1017 369), (0, u "canEncode"), (0, .methodref 107 1019), (0, .nameAndType 53 1020), (0, u "(C)[B"), (80, u "serialPersistentFields"), (0, u "[Ljava/io/ObjectStreamField;"), (0, .class_ 1104), (0, u "java/lang/String$CaseInsensitiveComparator"), (1, .class_ 1107), (0, u "java/io/Serializable"), (0, .class_ 1109), (0, u "java/lang/Comparable"), (0, .class_ 1111), (0, u "java/lang/constant/Constable"), (0, .class_ 1113), (0, u "java/lang/constant/ConstantDesc"), (2, u "serialVersionUID"), (0, u "J"), (3, u "REPL"), (0, u "C"), (2, u "LATIN1"), (1, u "UTF16")] 323

def k7m0 : Method := { name := "<init>", desc := "()V", sig := { parameters := [], returnType := none }, accessFlags := 1, code := none }
def k7c1 : Code := { maxStack := 5, maxLocals := 2, code := jdk_42_method_3_code, exceptionTable := #[], attributes := #[] }
def k7m1 : Method := { name := "<init>", desc := "([C)V", sig := { parameters := [(.array .char)], returnType := none }, accessFlags := 1, code := some k7c1 }
def k7c2 : Code := { maxStack := 2, maxLocals := 3, code := jdk_42_method_66_code, exceptionTable := #[], attributes := #[] }
def k7m2 : Method := { name := "equals", desc := "(Ljava/lang/Object;)Z", sig := { parameters := [(.object "java/lang/Object")], returnType := some .boolean }, accessFlags := 1, code := some k7c2 }
def k7c3 : Code := { maxStack := 4, maxLocals := 1, code := jdk_42_method_139_code, exceptionTable := #[], attributes := #[] }
def k7m3 : Method := { name := "valueOf", desc := "(C)Ljava/lang/String;", sig := { parameters := [.char], returnType := some (.object "java/lang/String") }, accessFlags := 9, code := some k7c3 }
def k7c4 : Code := { maxStack := 4, maxLocals := 6, code := jdk_42_method_149_code, exceptionTable := #[], attributes := #[] }
def k7m4 : Method := { name := "<init>", desc := "([CIILjava/lang/Void;)V", sig := { parameters := [(.array .char), .int, .int, (.object "java/lang/Void")], returnType := none }, accessFlags := 2, code := some k7c4 }
def k7c5 : Code := { maxStack := 2, maxLocals := 3, code := jdk_42_method_151_code, exceptionTable := #[], attributes := #[] }
def k7m5 : Method := { name := "<init>", desc := "([BB)V", sig := { parameters := [(.array .byte), .byte], returnType := none }, accessFlags := 0, code := some k7c5 }
/-- java/lang/String -/
def k7 : Class := { plain "java/lang/String" (some 0) with
  accessFlags := 49
  interfaces := #[2, 3, 4, 5, 6]
  cf := some (fileOf pool7 10 #[.nestMembers #[1103]] #[{ accessFlags := 1, nameIndex := 5, descriptorIndex := 6, attributes := #[] }, { accessFlags := 1, nameIndex := 5, descriptorIndex := 1010, attributes := #[] }, { accessFlags := 1, nameIndex := 543, descriptorIndex := 573, attributes := #[] }, { accessFlags := 9, nameIndex := 782, descriptorIndex := 783, attributes := #[] }, { accessFlags := 2, nameIndex := 5, descriptorIndex := 29, attributes := #[] }, { accessFlags := 0, nameIndex := 5, descriptorIndex := 211, attributes := #[] }] 49 2 #[1106, 1108, 575, 1110, 1112] #[{ accessFlags := 18, nameIndex := 13, descriptorIndex := 14, attributes := #[] }, { accessFlags := 18, nameIndex := 17, descriptorIndex := 18, attributes := #[] }, { accessFlags := 2, nameIndex := 21, descriptorIndex := 22, attributes := #[] }, { accessFlags := 2, nameIndex := 25, descriptorIndex := 26, attributes := #[] }, { accessFlags := 26, nameIndex := 1116, descriptorIndex := 1117, attributes := #[] }, { accessFlags := 24, nameIndex := 40, descriptorIndex := 26, attributes := #[] }, { accessFlags := 26, nameIndex := 1101, descriptorIndex := 1102, attributes := #[] }, { accessFlags := 26, nameIndex := 1121, descriptorIndex := 1122, attributes := #[] }, { accessFlags := 25, nameIndex := 599, descriptorIndex := 600, attributes := #[] }, { accessFlags := 24, nameIndex := 1125, descriptorIndex := 18, attributes := #[] }, { accessFlags := 24, nameIndex := 1127, descriptorIndex := 18, attributes := #[] }])
  fields := #[{ name := "value", type := (.array .byte), accessFlags := 18, slot := 0, constantValue := 0 }, { name := "coder", type := .byte, accessFlags := 18, slot := 1, constantValue := 0 }, { name := "hash", type := .int, accessFlags := 2, slot := 2, constantValue := 0 }, { name := "hashIsZero", type := .boolean, accessFlags := 2, slot := 3, constantValue := 0 }, { name := "serialVersionUID", type := .long, accessFlags := 26, slot := 0, constantValue := 0 }, { name := "COMPACT_STRINGS", type := .boolean, accessFlags := 24, slot := 1, constantValue := 0 }, { name := "serialPersistentFields", type := (.array (.object "java/io/ObjectStreamField")), accessFlags := 26, slot := 2, constantValue := 0 }, { name := "REPL", type := .char, accessFlags := 26, slot := 3, constantValue := 0 }, { name := "CASE_INSENSITIVE_ORDER", type := (.object "java/util/Comparator"), accessFlags := 25, slot := 4, constantValue := 0 }, { name := "LATIN1", type := .byte, accessFlags := 24, slot := 5, constantValue := 0 }, { name := "UTF16", type := .byte, accessFlags := 24, slot := 6, constantValue := 0 }]
  methods := #[k7m0, k7m1, k7m2, k7m3, k7m4, k7m5]
  instanceTypes := #[(.array .byte), .byte, .int, .boolean]
  staticTypes := #[.long, .boolean, (.array (.object "java/io/ObjectStreamField")), .char, (.object "java/util/Comparator"), .byte, .byte]
  resolved := Array.replicate 1451 none
  statics := some 0 }

def pool8 : Array CpInfo := pool [(2, .class_ 4), (1, u "com/example/gate_authz/gateauthz/core/Caller"), (0, u "<init>"), (1, .interfaceMethodref 8 9), (0, .class_ 10), (0, .nameAndType 11 12), (0, u "java/util/Map"), (0, u "of"), (0, u "()Ljava/util/Map;"), (3, .methodref 17 18), (0, .class_ 19), (0, .nameAndType 5 20), (0, u "java/lang/Object"), (0, u "()V"), (1, .class_ 24), (1, u "java/lang/String"), (1, u "()Z"), (5, .nameAndType 5 33), (0, u "(Ljava/lang/String;)V"), (0, .fieldref 2 35), (0, .nameAndType 36 37), (0, u "userId"), (0, u "Ljava/lang/String;"), (0, .fieldref 2 39), (0, .nameAndType 40 37), (0, u "tenantId"), (17, .fieldref 2 59), (0, .nameAndType 60 61), (0, u "permissions"), (0, u "Ljava/util/Set;"), (1, .class_ 65), (1, u "java/util/Set"), (1, .fieldref 2 68), (0, .nameAndType 69 61), (0, u "roles"), (3, u "()Ljava/util/Set;"), (24, .fieldref 2 99), (0, .nameAndType 100 101), (0, u "claims"), (0, u "Ljava/util/Map;"), (0, .fieldref 2 103), (0, .nameAndType 104 37), (0, u "tokenProblem"), (0, .fieldref 2 106), (0, .nameAndType 107 37), (0, u "permissionsProblem"), (2, u "isAuthenticated"), (7, .class_ 120), (1, u "java/util/Objects"), (0, u "requireNonNull"), (13, .interfaceMethodref 63 136), (0, .nameAndType 11 73), (2, u "ANONYMOUS"), (0, u "Lcom/example/gate_authz/gateauthz/core/Caller;"), (0, .string 142), (0, u "problem"), (0, .methodref 118 144), (0, .nameAndType 121 145), (0, u "(Ljava/lang/Object;Ljava/lang/String;)Ljava/lang/Object;"), (0, .methodref 2 32), (6, .interfaceMethodref 63 154), (0, .nameAndType 155 156), (0, u "contains"), (0, u "(Ljava/lang/Object;)Z"), (28, u "invalidToken"), (0, u "(Ljava/lang/String;)Lcom/example/gate_authz/gateauthz/core/Caller;"), (4, u "getTokenProblem"), (0, u "()Ljava/lang/String;"), (0, u "getPermissionsProblem"), (0, u "getUserId"), (0, u "getTenantId"), (5, u "hasPermission"), (0, u "(Ljava/lang/String;)Z"), (0, u "hasRole")] 43

def k8c0 : Code := { maxStack := 2, maxLocals := 2, code := prog_2_method_6_code, exceptionTable := #[], attributes := #[] }
def k8m0 : Method := { name := "<init>", desc := "(Ljava/lang/String;)V", sig := { parameters := [(.object "java/lang/String")], returnType := none }, accessFlags := 2, code := some k8c0 }
def k8c1 : Code := { maxStack := 4, maxLocals := 1, code := prog_2_method_8_code, exceptionTable := #[], attributes := #[] }
def k8m1 : Method := { name := "invalidToken", desc := "(Ljava/lang/String;)Lcom/example/gate_authz/gateauthz/core/Caller;", sig := { parameters := [(.object "java/lang/String")], returnType := some (.object "com/example/gate_authz/gateauthz/core/Caller") }, accessFlags := 9, code := some k8c1 }
def k8c2 : Code := { maxStack := 1, maxLocals := 1, code := prog_2_method_11_code, exceptionTable := #[], attributes := #[] }
def k8m2 : Method := { name := "isAuthenticated", desc := "()Z", sig := { parameters := [], returnType := some .boolean }, accessFlags := 1, code := some k8c2 }
def k8c3 : Code := { maxStack := 1, maxLocals := 1, code := prog_2_method_12_code, exceptionTable := #[], attributes := #[] }
def k8m3 : Method := { name := "getTokenProblem", desc := "()Ljava/lang/String;", sig := { parameters := [], returnType := some (.object "java/lang/String") }, accessFlags := 1, code := some k8c3 }
def k8c4 : Code := { maxStack := 1, maxLocals := 1, code := prog_2_method_13_code, exceptionTable := #[], attributes := #[] }
def k8m4 : Method := { name := "getPermissionsProblem", desc := "()Ljava/lang/String;", sig := { parameters := [], returnType := some (.object "java/lang/String") }, accessFlags := 1, code := some k8c4 }
def k8c5 : Code := { maxStack := 1, maxLocals := 1, code := prog_2_method_14_code, exceptionTable := #[], attributes := #[] }
def k8m5 : Method := { name := "getUserId", desc := "()Ljava/lang/String;", sig := { parameters := [], returnType := some (.object "java/lang/String") }, accessFlags := 1, code := some k8c5 }
def k8c6 : Code := { maxStack := 1, maxLocals := 1, code := prog_2_method_15_code, exceptionTable := #[], attributes := #[] }
def k8m6 : Method := { name := "getTenantId", desc := "()Ljava/lang/String;", sig := { parameters := [], returnType := some (.object "java/lang/String") }, accessFlags := 1, code := some k8c6 }
def k8c7 : Code := { maxStack := 2, maxLocals := 2, code := prog_2_method_19_code, exceptionTable := #[], attributes := #[] }
def k8m7 : Method := { name := "hasPermission", desc := "(Ljava/lang/String;)Z", sig := { parameters := [(.object "java/lang/String")], returnType := some .boolean }, accessFlags := 1, code := some k8c7 }
def k8c8 : Code := { maxStack := 2, maxLocals := 2, code := prog_2_method_20_code, exceptionTable := #[], attributes := #[] }
def k8m8 : Method := { name := "hasRole", desc := "(Ljava/lang/String;)Z", sig := { parameters := [(.object "java/lang/String")], returnType := some .boolean }, accessFlags := 1, code := some k8c8 }
/-- com/example/gate_authz/gateauthz/core/Caller -/
def k8 : Class := { plain "com/example/gate_authz/gateauthz/core/Caller" (some 0) with
  accessFlags := 49
  interfaces := #[]
  cf := some (fileOf pool8 2 #[] #[{ accessFlags := 2, nameIndex := 5, descriptorIndex := 33, attributes := #[] }, { accessFlags := 9, nameIndex := 185, descriptorIndex := 186, attributes := #[] }, { accessFlags := 1, nameIndex := 110, descriptorIndex := 26, attributes := #[] }, { accessFlags := 1, nameIndex := 191, descriptorIndex := 192, attributes := #[] }, { accessFlags := 1, nameIndex := 193, descriptorIndex := 192, attributes := #[] }, { accessFlags := 1, nameIndex := 194, descriptorIndex := 192, attributes := #[] }, { accessFlags := 1, nameIndex := 195, descriptorIndex := 192, attributes := #[] }, { accessFlags := 1, nameIndex := 201, descriptorIndex := 202, attributes := #[] }, { accessFlags := 1, nameIndex := 203, descriptorIndex := 202, attributes := #[] }] 49 17 #[] #[{ accessFlags := 26, nameIndex := 139, descriptorIndex := 140, attributes := #[] }, { accessFlags := 18, nameIndex := 36, descriptorIndex := 37, attributes := #[] }, { accessFlags := 18, nameIndex := 40, descriptorIndex := 37, attributes := #[] }, { accessFlags := 18, nameIndex := 60, descriptorIndex := 61, attributes := #[] }, { accessFlags := 18, nameIndex := 69, descriptorIndex := 61, attributes := #[] }, { accessFlags := 18, nameIndex := 100, descriptorIndex := 101, attributes := #[] }, { accessFlags := 18, nameIndex := 104, descriptorIndex := 37, attributes := #[] }, { accessFlags := 18, nameIndex := 107, descriptorIndex := 37, attributes := #[] }])
  fields := #[{ name := "ANONYMOUS", type := (.object "com/example/gate_authz/gateauthz/core/Caller"), accessFlags := 26, slot := 0, constantValue := 0 }, { name := "userId", type := (.object "java/lang/String"), accessFlags := 18, slot := 0, constantValue := 0 }, { name := "tenantId", type := (.object "java/lang/String"), accessFlags := 18, slot := 1, constantValue := 0 }, { name := "permissions", type := (.object "java/util/Set"), accessFlags := 18, slot := 2, constantValue := 0 }, { name := "roles", type := (.object "java/util/Set"), accessFlags := 18, slot := 3, constantValue := 0 }, { name := "claims", type := (.object "java/util/Map"), accessFlags := 18, slot := 4, constantValue := 0 }, { name := "tokenProblem", type := (.object "java/lang/String"), accessFlags := 18, slot := 5, constantValue := 0 }, { name := "permissionsProblem", type := (.object "java/lang/String"), accessFlags := 18, slot := 6, constantValue := 0 }]
  methods := #[k8m0, k8m1, k8m2, k8m3, k8m4, k8m5, k8m6, k8m7, k8m8]
  instanceTypes := #[(.object "java/lang/String"), (.object "java/lang/String"), (.object "java/util/Set"), (.object "java/util/Set"), (.object "java/util/Map"), (.object "java/lang/String"), (.object "java/lang/String")]
  staticTypes := #[(.object "com/example/gate_authz/gateauthz/core/Caller")]
  resolved := Array.replicate 247 none
  statics := none }

def pool9 : Array CpInfo := pool [(2, .class_ 4), (1, u "java/lang/Object"), (0, u "<init>"), (0, u "()V"), (35, .class_ 44), (1, u "java/util/Objects"), (0, u "requireNonNull"), (0, u "(Ljava/lang/Object;)Ljava/lang/Object;"), (47, u "(Ljava/lang/Object;Ljava/lang/String;)Ljava/lang/Object;")] 89

def k9m0 : Method := { name := "<init>", desc := "()V", sig := { parameters := [], returnType := none }, accessFlags := 2, code := none }
def k9c1 : Code := { maxStack := 2, maxLocals := 1, code := jdk_31_method_10_code, exceptionTable := #[], attributes := #[] }
def k9m1 : Method := { name := "requireNonNull", desc := "(Ljava/lang/Object;)Ljava/lang/Object;", sig := { parameters := [(.object "java/lang/Object")], returnType := some (.object "java/lang/Object") }, accessFlags := 9, code := some k9c1 }
def k9c2 : Code := { maxStack := 3, maxLocals := 2, code := jdk_31_method_11_code, exceptionTable := #[], attributes := #[] }
def k9m2 : Method := { name := "requireNonNull", desc := "(Ljava/lang/Object;Ljava/lang/String;)Ljava/lang/Object;", sig := { parameters := [(.object "java/lang/Object"), (.object "java/lang/String")], returnType := some (.object "java/lang/Object") }, accessFlags := 9, code := some k9c2 }
/-- java/util/Objects -/
def k9 : Class := { plain "java/util/Objects" (some 0) with
  accessFlags := 49
  interfaces := #[]
  cf := some (fileOf pool9 42 #[] #[{ accessFlags := 2, nameIndex := 5, descriptorIndex := 6, attributes := #[] }, { accessFlags := 9, nameIndex := 45, descriptorIndex := 46, attributes := #[] }, { accessFlags := 9, nameIndex := 45, descriptorIndex := 94, attributes := #[] }] 49 2 #[] #[])
  fields := #[]
  methods := #[k9m0, k9m1, k9m2]
  instanceTypes := #[]
  staticTypes := #[]
  resolved := Array.replicate 184 none
  statics := none }

def pool10 : Array CpInfo := pool [(8, .class_ 10), (1, u "java/lang/Iterable"), (24, .class_ 36), (0, u "java/lang/Object")] 25

/-- java/lang/Iterable -/
def k10 : Class := { plain "java/lang/Iterable" (some 0) with
  accessFlags := 1537
  interfaces := #[]
  cf := some (fileOf pool10 8 #[] #[] 1537 35 #[] #[])
  fields := #[]
  methods := #[]
  instanceTypes := #[]
  staticTypes := #[]
  resolved := Array.replicate 62 none
  statics := none }

def pool11 : Array CpInfo := pool [(10, .class_ 12), (1, u "java/util/Collection"), (47, .class_ 61), (0, u "java/lang/Object"), (0, .class_ 63), (0, u "java/lang/Iterable")] 51

/-- java/util/Collection -/
def k11 : Class := { plain "java/util/Collection" (some 0) with
  accessFlags := 1537
  interfaces := #[10]
  cf := some (fileOf pool11 10 #[] #[] 1537 60 #[62] #[])
  fields := #[]
  methods := #[]
  instanceTypes := #[]
  staticTypes := #[]
  resolved := Array.replicate 115 none
  statics := none }

def pool12 : Array CpInfo := pool [(9, .fieldref 10 11), (0, .class_ 12), (0, .nameAndType 13 14), (0, u "java/util/ImmutableCollections"), (0, u "EMPTY_SET"), (0, u "Ljava/util/ImmutableCollections$SetN;"), (11, .class_ 27), (0, u "java/lang/Object"), (5, .class_ 34), (0, u "java/util/Set"), (1, .class_ 38), (1, u "java/util/Collection"), (4, u "of"), (0, u "()Ljava/util/Set;"), (14, u "contains"), (0, u "(Ljava/lang/Object;)Z")] 83

def k12m0 : Method := { name := "contains", desc := "(Ljava/lang/Object;)Z", sig := { parameters := [(.object "java/lang/Object")], returnType := some .boolean }, accessFlags := 1025, code := none }
def k12c1 : Code := { maxStack := 1, maxLocals := 0, code := jdk_96_method_17_code, exceptionTable := #[], attributes := #[] }
def k12m1 : Method := { name := "of", desc := "()Ljava/util/Set;", sig := { parameters := [], returnType := some (.object "java/util/Set") }, accessFlags := 9, code := some k12c1 }
/-- java/util/Set -/
def k12 : Class := { plain "java/util/Set" (some 0) with
  accessFlags := 1537
  interfaces := #[11]
  cf := some (fileOf pool12 33 #[] #[{ accessFlags := 1025, nameIndex := 59, descriptorIndex := 60, attributes := #[] }, { accessFlags := 9, nameIndex := 43, descriptorIndex := 44, attributes := #[] }] 1537 26 #[36] #[])
  fields := #[]
  methods := #[k12m0, k12m1]
  instanceTypes := #[]
  staticTypes := #[]
  resolved := Array.replicate 144 none
  statics := none }

def pool13 : Array CpInfo := pool [(2, .class_ 4), (1, u "java/lang/Object"), (0, u "<init>"), (0, u "()V"), (3, .class_ 11), (0, u "java/util/ImmutableCollections$List12"), (0, .class_ 13), (0, u "java/util/ImmutableCollections$ListN"), (3, u "Z"), (29, .class_ 49), (1, u "java/util/ImmutableCollections"), (0, u "$assertionsDisabled"), (5, u "[Ljava/lang/Object;"), (5, u "EMPTY_LIST"), (0, u "Ljava/util/ImmutableCollections$ListN;"), (8, u "EMPTY_LIST_NULLS"), (22, u "SALT32L"), (0, u "J"), (2, u "REVERSE"), (6, u "archivedObjects"), (2, u "EMPTY"), (0, u "Ljava/lang/Object;"), (0, .class_ 112), (0, u "java/util/ImmutableCollections$SetN"), (5, u "EMPTY_SET"), (0, u "Ljava/util/ImmutableCollections$SetN;"), (0, .class_ 121), (0, u "java/util/ImmutableCollections$MapN"), (3, u "EMPTY_MAP"), (0, u "Ljava/util/ImmutableCollections$MapN;"), (4, u "EXPAND_FACTOR"), (0, u "I"), (36, .class_ 170), (0, u "java/util/ImmutableCollections$MapN$MapNIterator"), (0, .class_ 172), (0, u "java/util/ImmutableCollections$MapN$1"), (0, .class_ 174), (0, u "java/util/ImmutableCollections$Map1"), (0, .class_ 176), (0, u "java/util/ImmutableCollections$AbstractImmutableMap"), (0, .class_ 178), (0, u "java/util/ImmutableCollections$SetN$SetNIterator"), (0, .class_ 180), (0, u "java/util/ImmutableCollections$Set12"), (0, .class_ 182), (0, u "java/util/ImmutableCollections$Set12$1"), (0, .class_ 184), (0, u "java/util/ImmutableCollections$AbstractImmutableSet"), (0, .class_ 186), (0, u "java/util/ImmutableCollections$SubList"), (0, .class_ 188), (0, u "java/util/ImmutableCollections$ListItr"), (0, .class_ 190), (0, u "java/util/ImmutableCollections$AbstractImmutableList"), (0, .class_ 192), (0, u "java/util/ImmutableCollections$AbstractImmutableCollection"), (0, .class_ 194), (0, u "java/util/ImmutableCollections$Access"), (0, .class_ 196), (0, u "java/util/ImmutableCollections$Access$1")] 16

def k13m0 : Method := { name := "<init>", desc := "()V", sig := { parameters := [], returnType := none }, accessFlags := 2, code := none }
/-- java/util/ImmutableCollections -/
def k13 : Class := { plain "java/util/ImmutableCollections" (some 0) with
  accessFlags := 32
  interfaces := #[]
  cf := some (fileOf pool13 47 #[.nestMembers #[120, 169, 171, 173, 175, 111, 177, 179, 181, 183, 12, 10, 185, 187, 189, 191, 193, 195]] #[{ accessFlags := 2, nameIndex := 5, descriptorIndex := 6, attributes := #[] }] 32 2 #[] #[{ accessFlags := 26, nameIndex := 95, descriptorIndex := 96, attributes := #[] }, { accessFlags := 26, nameIndex := 99, descriptorIndex := 17, attributes := #[] }, { accessFlags := 10, nameIndex := 106, descriptorIndex := 56, attributes := #[] }, { accessFlags := 26, nameIndex := 109, descriptorIndex := 110, attributes := #[] }, { accessFlags := 24, nameIndex := 62, descriptorIndex := 63, attributes := #[] }, { accessFlags := 24, nameIndex := 72, descriptorIndex := 63, attributes := #[] }, { accessFlags := 24, nameIndex := 118, descriptorIndex := 119, attributes := #[] }, { accessFlags := 24, nameIndex := 125, descriptorIndex := 126, attributes := #[] }, { accessFlags := 24, nameIndex := 131, descriptorIndex := 132, attributes := #[] }, { accessFlags := 4120, nameIndex := 50, descriptorIndex := 17, attributes := #[] }])
  fields := #[{ name := "SALT32L", type := .long, accessFlags := 26, slot := 0, constantValue := 0 }, { name := "REVERSE", type := .boolean, accessFlags := 26, slot := 1, constantValue := 0 }, { name := "archivedObjects", type := (.array (.object "java/lang/Object")), accessFlags := 10, slot := 2, constantValue := 0 }, { name := "EMPTY", type := (.object "java/lang/Object"), accessFlags := 26, slot := 3, constantValue := 0 }, { name := "EMPTY_LIST", type := (.object "java/util/ImmutableCollections$ListN"), accessFlags := 24, slot := 4, constantValue := 0 }, { name := "EMPTY_LIST_NULLS", type := (.object "java/util/ImmutableCollections$ListN"), accessFlags := 24, slot := 5, constantValue := 0 }, { name := "EMPTY_SET", type := (.object "java/util/ImmutableCollections$SetN"), accessFlags := 24, slot := 6, constantValue := 0 }, { name := "EMPTY_MAP", type := (.object "java/util/ImmutableCollections$MapN"), accessFlags := 24, slot := 7, constantValue := 0 }, { name := "EXPAND_FACTOR", type := .int, accessFlags := 24, slot := 8, constantValue := 0 }, { name := "$assertionsDisabled", type := .boolean, accessFlags := 4120, slot := 9, constantValue := 0 }]
  methods := #[k13m0]
  instanceTypes := #[]
  staticTypes := #[.long, .boolean, (.array (.object "java/lang/Object")), (.object "java/lang/Object"), (.object "java/util/ImmutableCollections$ListN"), (.object "java/util/ImmutableCollections$ListN"), (.object "java/util/ImmutableCollections$SetN"), (.object "java/util/ImmutableCollections$MapN"), .int, .boolean]
  resolved := Array.replicate 213 none
  statics := some 1 }

def pool14 : Array CpInfo := pool [(2, .class_ 4), (1, u "java/util/Map"), (31, .class_ 37), (0, u "java/util/Map$Entry"), (43, .fieldref 82 83), (0, .class_ 84), (0, .nameAndType 85 86), (0, u "java/util/ImmutableCollections"), (0, u "EMPTY_MAP"), (0, u "Ljava/util/ImmutableCollections$MapN;"), (6, .class_ 94), (0, u "java/lang/Object"), (13, u "of"), (0, u "()Ljava/util/Map;")] 153

def k14c0 : Code := { maxStack := 1, maxLocals := 0, code := jdk_72_method_26_code, exceptionTable := #[], attributes := #[] }
def k14m0 : Method := { name := "of", desc := "()Ljava/util/Map;", sig := { parameters := [], returnType := some (.object "java/util/Map") }, accessFlags := 9, code := some k14c0 }
/-- java/util/Map -/
def k14 : Class := { plain "java/util/Map" (some 0) with
  accessFlags := 1537
  interfaces := #[]
  cf := some (fileOf pool14 2 #[.nestMembers #[36]] #[{ accessFlags := 9, nameIndex := 108, descriptorIndex := 109, attributes := #[] }] 1537 93 #[] #[])
  fields := #[]
  methods := #[k14m0]
  instanceTypes := #[]
  staticTypes := #[]
  resolved := Array.replicate 263 none
  statics := none }

def pool15 : Array CpInfo := pool [(2, .class_ 4), (1, u "java/lang/Object"), (0, u "<init>"), (0, u "()V"), (1, .class_ 10), (1, u "java/util/AbstractCollection"), (66, .class_ 78), (0, u "java/util/Collection")] 81

def k15m0 : Method := { name := "<init>", desc := "()V", sig := { parameters := [], returnType := none }, accessFlags := 4, code := none }
/-- java/util/AbstractCollection -/
def k15 : Class := { plain "java/util/AbstractCollection" (some 0) with
  accessFlags := 1057
  interfaces := #[11]
  cf := some (fileOf pool15 8 #[] #[{ accessFlags := 4, nameIndex := 5, descriptorIndex := 6, attributes := #[] }] 1057 2 #[77] #[])
  fields := #[]
  methods := #[k15m0]
  instanceTypes := #[]
  staticTypes := #[]
  resolved := Array.replicate 160 none
  statics := none }

def pool16 : Array CpInfo := pool [(2, .class_ 4), (1, u "java/util/AbstractCollection"), (0, u "<init>"), (0, u "()V"), (1, .class_ 10), (1, u "java/util/ImmutableCollections"), (2, .class_ 14), (0, u "java/util/ImmutableCollections$AbstractImmutableCollection")] 41

def k16m0 : Method := { name := "<init>", desc := "()V", sig := { parameters := [], returnType := none }, accessFlags := 0, code := none }
/-- java/util/ImmutableCollections$AbstractImmutableCollection -/
def k16 : Class := { plain "java/util/ImmutableCollections$AbstractImmutableCollection" (some 15) with
  accessFlags := 1056
  interfaces := #[]
  cf := some (fileOf pool16 13 #[.nestHost 8] #[{ accessFlags := 0, nameIndex := 5, descriptorIndex := 6, attributes := #[] }] 1056 2 #[] #[])
  fields := #[]
  methods := #[k16m0]
  instanceTypes := #[]
  staticTypes := #[]
  resolved := Array.replicate 56 none
  statics := none }

def pool17 : Array CpInfo := pool [(2, .class_ 4), (1, u "java/util/ImmutableCollections$AbstractImmutableCollection"), (0, u "<init>"), (0, u "()V"), (0, .class_ 8), (0, u "java/util/Set"), (7, .class_ 17), (0, u "java/util/ImmutableCollections$AbstractImmutableSet"), (43, .class_ 62), (0, u "java/util/ImmutableCollections")] 3

def k17m0 : Method := { name := "<init>", desc := "()V", sig := { parameters := [], returnType := none }, accessFlags := 0, code := none }
/-- java/util/ImmutableCollections$AbstractImmutableSet -/
def k17 : Class := { plain "java/util/ImmutableCollections$AbstractImmutableSet" (some 16) with
  accessFlags := 1056
  interfaces := #[12]
  cf := some (fileOf pool17 16 #[.nestHost 61] #[{ accessFlags := 0, nameIndex := 5, descriptorIndex := 6, attributes := #[] }] 1056 2 #[7] #[])
  fields := #[]
  methods := #[k17m0]
  instanceTypes := #[]
  staticTypes := #[]
  resolved := Array.replicate 66 none
  statics := none }

def pool18 : Array CpInfo := pool [(1, .class_ 2), (0, u "java/util/ImmutableCollections"), (1, .class_ 6), (1, u "java/util/ImmutableCollections$AbstractImmutableSet"), (2, .fieldref 10 11), (0, .class_ 12), (0, .nameAndType 13 14), (0, u "java/util/ImmutableCollections$SetN"), (0, u "size"), (0, u "I"), (4, u "elements"), (0, u "[Ljava/lang/Object;"), (25, .methodref 47 48), (0, .class_ 49), (0, .nameAndType 50 51), (0, u "java/util/Objects"), (0, u "requireNonNull"), (0, u "(Ljava/lang/Object;)Ljava/lang/Object;"), (18, u "(Ljava/lang/Object;)Z"), (36, .class_ 108), (0, u "java/io/Serializable"), (23, u "contains")] 35

def k18c0 : Code := { maxStack := 2, maxLocals := 2, code := jdk_132_method_4_code, exceptionTable := #[], attributes := #[] }
def k18m0 : Method := { name := "contains", desc := "(Ljava/lang/Object;)Z", sig := { parameters := [(.object "java/lang/Object")], returnType := some .boolean }, accessFlags := 1, code := some k18c0 }
/-- java/util/ImmutableCollections$SetN -/
def k18 : Class := { plain "java/util/ImmutableCollections$SetN" (some 17) with
  accessFlags := 48
  interfaces := #[2]
  cf := some (fileOf pool18 10 #[.nestHost 1] #[{ accessFlags := 1, nameIndex := 132, descriptorIndex := 70, attributes := #[] }] 48 4 #[107] #[{ accessFlags := 16, nameIndex := 19, descriptorIndex := 20, attributes := #[] }, { accessFlags := 16, nameIndex := 13, descriptorIndex := 14, attributes := #[] }])
  fields := #[{ name := "elements", type := (.array (.object "java/lang/Object")), accessFlags := 16, slot := 0, constantValue := 0 }, { name := "size", type := .int, accessFlags := 16, slot := 1, constantValue := 0 }]
  methods := #[k18m0]
  instanceTypes := #[(.array (.object "java/lang/Object")), .int]
  staticTypes := #[]
  resolved := Array.replicate 168 none
  statics := none }

def pool19 : Array CpInfo := pool [(4, .class_ 6), (1, u "java/lang/Object"), (0, u "<init>"), (0, u "()V"), (5, .class_ 16), (1, u "java/lang/StringLatin1"), (73, u "canEncode"), (14, u "(C)Z"), (15, u "$assertionsDisabled"), (0, u "Z"), (98, .class_ 223), (1, u "java/lang/StringLatin1$LinesSpliterator"), (156, u "toBytes"), (1, u "(C)[B"), (7, .class_ 391), (0, u "java/lang/StringLatin1$CharsSpliterator")] 3

def k19m0 : Method := { name := "<init>", desc := "()V", sig := { parameters := [], returnType := none }, accessFlags := 0, code := none }
def k19c1 : Code := { maxStack := 2, maxLocals := 1, code := jdk_43_method_3_code, exceptionTable := #[], attributes := #[] }
def k19m1 : Method := { name := "canEncode", desc := "(C)Z", sig := { parameters := [.char], returnType := some .boolean }, accessFlags := 9, code := some k19c1 }
def k19c2 : Code := { maxStack := 4, maxLocals := 1, code := jdk_43_method_46_code, exceptionTable := #[], attributes := #[] }
def k19m2 : Method := { name := "toBytes", desc := "(C)[B", sig := { parameters := [.char], returnType := some (.array .byte) }, accessFlags := 9, code := some k19c2 }
/-- java/lang/StringLatin1 -/
def k19 : Class := { plain "java/lang/StringLatin1" (some 0) with
  accessFlags := 48
  interfaces := #[]
  cf := some (fileOf pool19 14 #[.nestMembers #[390, 221]] #[{ accessFlags := 0, nameIndex := 7, descriptorIndex := 8, attributes := #[] }, { accessFlags := 9, nameIndex := 90, descriptorIndex := 105, attributes := #[] }, { accessFlags := 9, nameIndex := 380, descriptorIndex := 382, attributes := #[] }] 48 4 #[] #[{ accessFlags := 4120, nameIndex := 121, descriptorIndex := 122, attributes := #[] }])
  fields := #[{ name := "$assertionsDisabled", type := .boolean, accessFlags := 4120, slot := 0, constantValue := 0 }]
  methods := #[k19m0, k19m1, k19m2]
  instanceTypes := #[]
  staticTypes := #[.boolean]
  resolved := Array.replicate 395 none
  statics := none }

def pool20 : Array CpInfo := pool [(6, .class_ 8), (1, u "java/lang/Object"), (0, u "<init>"), (0, u "()V"), (1, .class_ 14), (1, u "java/lang/StringUTF16"), (31, u "$assertionsDisabled"), (0, u "Z"), (13, u "HI_BYTE_SHIFT"), (0, u "I"), (2, u "LO_BYTE_SHIFT"), (49, .methodref 12 116), (0, .nameAndType 117 118), (0, u "compress"), (0, u "([CI[BII)I"), (3, u "([CII)[B"), (138, u "coderFromArrayLen"), (0, u "([BI)B"), (106, .class_ 371), (1, u "java/lang/StringUTF16$LinesSpliterator"), (58, u "MAX_LENGTH"), (196, .class_ 628), (0, u "java/lang/StringUTF16$CodePointsSpliterator"), (0, .class_ 630), (0, u "java/lang/StringUTF16$CharsSpliterator")] 4

def k20m0 : Method := { name := "<init>", desc := "()V", sig := { parameters := [], returnType := none }, accessFlags := 0, code := none }
def k20c1 : Code := { maxStack := 2, maxLocals := 2, code := jdk_52_method_15_code, exceptionTable := #[], attributes := #[] }
def k20m1 : Method := { name := "coderFromArrayLen", desc := "([BI)B", sig := { parameters := [(.array .byte), .int], returnType := some .byte }, accessFlags := 8, code := some k20c1 }
def k20c2 : Code := { maxStack := 5, maxLocals := 6, code := jdk_52_method_16_code, exceptionTable := #[], attributes := #[] }
def k20m2 : Method := { name := "compress", desc := "([CII)[B", sig := { parameters := [(.array .char), .int, .int], returnType := some (.array .byte) }, accessFlags := 9, code := some k20c2 }
def k20c3 : Code := { maxStack := 3, maxLocals := 7, code := jdk_52_method_21_code, exceptionTable := #[], attributes := #[] }
def k20m3 : Method := { name := "compress", desc := "([CI[BII)I", sig := { parameters := [(.array .char), .int, (.array .byte), .int, .int], returnType := some .int }, accessFlags := 9, code := some k20c3 }
/-- java/lang/StringUTF16 -/
def k20 : Class := { plain "java/lang/StringUTF16" (some 0) with
  accessFlags := 48
  interfaces := #[]
  cf := some (fileOf pool20 12 #[.nestMembers #[627, 629, 369]] #[{ accessFlags := 0, nameIndex := 9, descriptorIndex := 10, attributes := #[] }, { accessFlags := 8, nameIndex := 261, descriptorIndex := 262, attributes := #[] }, { accessFlags := 9, nameIndex := 117, descriptorIndex := 122, attributes := #[] }, { accessFlags := 9, nameIndex := 117, descriptorIndex := 118, attributes := #[] }] 48 6 #[] #[{ accessFlags := 26, nameIndex := 61, descriptorIndex := 62, attributes := #[] }, { accessFlags := 26, nameIndex := 65, descriptorIndex := 62, attributes := #[] }, { accessFlags := 24, nameIndex := 430, descriptorIndex := 62, attributes := #[] }, { accessFlags := 4120, nameIndex := 46, descriptorIndex := 47, attributes := #[] }])
  fields := #[{ name := "HI_BYTE_SHIFT", type := .int, accessFlags := 26, slot := 0, constantValue := 0 }, { name := "LO_BYTE_SHIFT", type := .int, accessFlags := 26, slot := 1, constantValue := 0 }, { name := "MAX_LENGTH", type := .int, accessFlags := 24, slot := 2, constantValue := 0 }, { name := "$assertionsDisabled", type := .boolean, accessFlags := 4120, slot := 3, constantValue := 0 }]
  methods := #[k20m0, k20m1, k20m2, k20m3]
  instanceTypes := #[]
  staticTypes := #[.int, .int, .int, .boolean]
  resolved := Array.replicate 635 none
  statics := none }

def pool21 : Array CpInfo := pool [(2, .class_ 4), (1, u "java/lang/Object"), (0, u "<init>"), (0, u "()V"), (17, .class_ 26), (1, u "jdk/internal/util/Preconditions"), (28, .class_ 56), (0, u "jdk/internal/util/Preconditions$4"), (57, .class_ 115), (0, u "jdk/internal/util/Preconditions$1"), (7, u "SIOOBE_FORMATTER"), (0, u "Ljava/util/function/BiFunction;"), (0, .class_ 126), (0, u "jdk/internal/util/Preconditions$2"), (3, u "AIOOBE_FORMATTER"), (0, .class_ 132), (0, u "jdk/internal/util/Preconditions$3"), (3, u "IOOBE_FORMATTER")] 57

def k21m0 : Method := { name := "<init>", desc := "()V", sig := { parameters := [], returnType := none }, accessFlags := 1, code := none }
/-- jdk/internal/util/Preconditions -/
def k21 : Class := { plain "jdk/internal/util/Preconditions" (some 0) with
  accessFlags := 33
  interfaces := #[]
  cf := some (fileOf pool21 24 #[.nestMembers #[55, 131, 125, 114]] #[{ accessFlags := 1, nameIndex := 5, descriptorIndex := 6, attributes := #[] }] 33 2 #[] #[{ accessFlags := 25, nameIndex := 123, descriptorIndex := 124, attributes := #[] }, { accessFlags := 25, nameIndex := 130, descriptorIndex := 124, attributes := #[] }, { accessFlags := 25, nameIndex := 136, descriptorIndex := 124, attributes := #[] }])
  fields := #[{ name := "SIOOBE_FORMATTER", type := (.object "java/util/function/BiFunction"), accessFlags := 25, slot := 0, constantValue := 0 }, { name := "AIOOBE_FORMATTER", type := (.object "java/util/function/BiFunction"), accessFlags := 25, slot := 1, constantValue := 0 }, { name := "IOOBE_FORMATTER", type := (.object "java/util/function/BiFunction"), accessFlags := 25, slot := 2, constantValue := 0 }]
  methods := #[k21m0]
  instanceTypes := #[]
  staticTypes := #[(.object "java/util/function/BiFunction"), (.object "java/util/function/BiFunction"), (.object "java/util/function/BiFunction")]
  resolved := Array.replicate 194 none
  statics := some 2 }

def pool22 : Array CpInfo := pool [(9, u "<init>"), (6, .class_ 18), (1, u "java/lang/Object"), (0, u "()V"), (1, .class_ 23), (1, u "jdk/internal/util/ArraysSupport"), (0, u "LOG2_ARRAY_LONG_INDEX_SCALE"), (0, u "I"), (2, u "U"), (0, u "Ljdk/internal/misc/Unsafe;"), (8, u "BIG_ENDIAN"), (0, u "Z"), (8, u "LOG2_BYTE_BIT_SIZE"), (4, u "LOG2_ARRAY_INT_INDEX_SCALE"), (54, u "JLA"), (0, u "Ljdk/internal/access/JavaLangAccess;"), (11, u "LOG2_ARRAY_BOOLEAN_INDEX_SCALE"), (9, u "LOG2_ARRAY_BYTE_INDEX_SCALE"), (5, u "LOG2_ARRAY_CHAR_INDEX_SCALE"), (5, u "LOG2_ARRAY_SHORT_INDEX_SCALE"), (18, u "LOG2_ARRAY_FLOAT_INDEX_SCALE"), (24, u "LOG2_ARRAY_DOUBLE_INDEX_SCALE"), (89, u "T_BOOLEAN"), (2, u "T_CHAR"), (1, u "T_FLOAT"), (1, u "T_DOUBLE"), (1, u "T_BYTE"), (1, u "T_SHORT"), (1, u "T_INT"), (1, u "T_LONG"), (1, u "SOFT_MAX_ARRAY_LENGTH")] 83

def k22m0 : Method := { name := "<init>", desc := "()V", sig := { parameters := [], returnType := none }, accessFlags := 2, code := none }
/-- jdk/internal/util/ArraysSupport -/
def k22 : Class := { plain "jdk/internal/util/ArraysSupport" (some 0) with
  accessFlags := 33
  interfaces := #[]
  cf := some (fileOf pool22 21 #[] #[{ accessFlags := 2, nameIndex := 9, descriptorIndex := 19, attributes := #[] }] 33 16 #[] #[{ accessFlags := 24, nameIndex := 28, descriptorIndex := 29, attributes := #[] }, { accessFlags := 26, nameIndex := 38, descriptorIndex := 39, attributes := #[] }, { accessFlags := 25, nameIndex := 121, descriptorIndex := 25, attributes := #[] }, { accessFlags := 25, nameIndex := 131, descriptorIndex := 25, attributes := #[] }, { accessFlags := 25, nameIndex := 137, descriptorIndex := 25, attributes := #[] }, { accessFlags := 25, nameIndex := 143, descriptorIndex := 25, attributes := #[] }, { accessFlags := 25, nameIndex := 53, descriptorIndex := 25, attributes := #[] }, { accessFlags := 25, nameIndex := 24, descriptorIndex := 25, attributes := #[] }, { accessFlags := 25, nameIndex := 162, descriptorIndex := 25, attributes := #[] }, { accessFlags := 25, nameIndex := 187, descriptorIndex := 25, attributes := #[] }, { accessFlags := 26, nameIndex := 48, descriptorIndex := 25, attributes := #[] }, { accessFlags := 25, nameIndex := 277, descriptorIndex := 25, attributes := #[] }, { accessFlags := 25, nameIndex := 280, descriptorIndex := 25, attributes := #[] }, { accessFlags := 25, nameIndex := 282, descriptorIndex := 25, attributes := #[] }, { accessFlags := 25, nameIndex := 284, descriptorIndex := 25, attributes := #[] }, { accessFlags := 25, nameIndex := 286, descriptorIndex := 25, attributes := #[] }, { accessFlags := 25, nameIndex := 288, descriptorIndex := 25, attributes := #[] }, { accessFlags := 25, nameIndex := 290, descriptorIndex := 25, attributes := #[] }, { accessFlags := 25, nameIndex := 292, descriptorIndex := 25, attributes := #[] }, { accessFlags := 26, nameIndex := 108, descriptorIndex := 109, attributes := #[] }, { accessFlags := 25, nameIndex := 294, descriptorIndex := 25, attributes := #[] }])
  fields := #[{ name := "U", type := (.object "jdk/internal/misc/Unsafe"), accessFlags := 24, slot := 0, constantValue := 0 }, { name := "BIG_ENDIAN", type := .boolean, accessFlags := 26, slot := 1, constantValue := 0 }, { name := "LOG2_ARRAY_BOOLEAN_INDEX_SCALE", type := .int, accessFlags := 25, slot := 2, constantValue := 0 }, { name := "LOG2_ARRAY_BYTE_INDEX_SCALE", type := .int, accessFlags := 25, slot := 3, constantValue := 0 }, { name := "LOG2_ARRAY_CHAR_INDEX_SCALE", type := .int, accessFlags := 25, slot := 4, constantValue := 0 }, { name := "LOG2_ARRAY_SHORT_INDEX_SCALE", type := .int, accessFlags := 25, slot := 5, constantValue := 0 }, { name := "LOG2_ARRAY_INT_INDEX_SCALE", type := .int, accessFlags := 25, slot := 6, constantValue := 0 }, { name := "LOG2_ARRAY_LONG_INDEX_SCALE", type := .int, accessFlags := 25, slot := 7, constantValue := 0 }, { name := "LOG2_ARRAY_FLOAT_INDEX_SCALE", type := .int, accessFlags := 25, slot := 8, constantValue := 0 }, { name := "LOG2_ARRAY_DOUBLE_INDEX_SCALE", type := .int, accessFlags := 25, slot := 9, constantValue := 0 }, { name := "LOG2_BYTE_BIT_SIZE", type := .int, accessFlags := 26, slot := 10, constantValue := 0 }, { name := "T_BOOLEAN", type := .int, accessFlags := 25, slot := 11, constantValue := 0 }, { name := "T_CHAR", type := .int, accessFlags := 25, slot := 12, constantValue := 0 }, { name := "T_FLOAT", type := .int, accessFlags := 25, slot := 13, constantValue := 0 }, { name := "T_DOUBLE", type := .int, accessFlags := 25, slot := 14, constantValue := 0 }, { name := "T_BYTE", type := .int, accessFlags := 25, slot := 15, constantValue := 0 }, { name := "T_SHORT", type := .int, accessFlags := 25, slot := 16, constantValue := 0 }, { name := "T_INT", type := .int, accessFlags := 25, slot := 17, constantValue := 0 }, { name := "T_LONG", type := .int, accessFlags := 25, slot := 18, constantValue := 0 }, { name := "JLA", type := (.object "jdk/internal/access/JavaLangAccess"), accessFlags := 26, slot := 19, constantValue := 0 }, { name := "SOFT_MAX_ARRAY_LENGTH", type := .int, accessFlags := 25, slot := 20, constantValue := 0 }]
  methods := #[k22m0]
  instanceTypes := #[]
  staticTypes := #[(.object "jdk/internal/misc/Unsafe"), .boolean, .int, .int, .int, .int, .int, .int, .int, .int, .int, .int, .int, .int, .int, .int, .int, .int, .int, (.object "jdk/internal/access/JavaLangAccess"), .int]
  resolved := Array.replicate 378 none
  statics := none }

def pool23 : Array CpInfo := pool [(2, .class_ 4), (1, u "java/lang/Object"), (0, u "<init>"), (0, u "()V"), (1, .class_ 10), (1, u "java/util/AbstractMap"), (42, .class_ 54), (0, u "java/util/Map"), (9, u "keySet"), (0, u "Ljava/util/Set;"), (0, .class_ 67), (0, u "java/util/AbstractMap$1"), (5, u "values"), (0, u "Ljava/util/Collection;"), (0, .class_ 76), (0, u "java/util/AbstractMap$2"), (104, .class_ 182), (0, u "java/util/AbstractMap$ViewCollection"), (0, .class_ 184), (0, u "java/util/AbstractMap$SimpleImmutableEntry"), (0, .class_ 186), (0, u "java/util/AbstractMap$SimpleEntry"), (0, .class_ 188), (0, u "java/util/AbstractMap$2$1"), (0, .class_ 190), (0, u "java/util/AbstractMap$1$1")] 5

def k23m0 : Method := { name := "<init>", desc := "()V", sig := { parameters := [], returnType := none }, accessFlags := 4, code := none }
/-- java/util/AbstractMap -/
def k23 : Class := { plain "java/util/AbstractMap" (some 0) with
  accessFlags := 1057
  interfaces := #[14]
  cf := some (fileOf pool23 8 #[.nestMembers #[181, 183, 185, 75, 187, 66, 189]] #[{ accessFlags := 4, nameIndex := 5, descriptorIndex := 6, attributes := #[] }] 1057 2 #[53] #[{ accessFlags := 128, nameIndex := 64, descriptorIndex := 65, attributes := #[] }, { accessFlags := 128, nameIndex := 73, descriptorIndex := 74, attributes := #[] }])
  fields := #[{ name := "keySet", type := (.object "java/util/Set"), accessFlags := 128, slot := 0, constantValue := 0 }, { name := "values", type := (.object "java/util/Collection"), accessFlags := 128, slot := 1, constantValue := 0 }]
  methods := #[k23m0]
  instanceTypes := #[(.object "java/util/Set"), (.object "java/util/Collection")]
  staticTypes := #[]
  resolved := Array.replicate 196 none
  statics := none }

def pool24 : Array CpInfo := pool [(2, .class_ 4), (1, u "java/util/AbstractMap"), (0, u "<init>"), (0, u "()V"), (1, .class_ 10), (1, u "java/util/ImmutableCollections"), (3, .class_ 16), (1, u "java/util/ImmutableCollections$AbstractImmutableMap"), (2, .class_ 20), (0, u "java/io/Serializable")] 66

def k24m0 : Method := { name := "<init>", desc := "()V", sig := { parameters := [], returnType := none }, accessFlags := 0, code := none }
/-- java/util/ImmutableCollections$AbstractImmutableMap -/
def k24 : Class := { plain "java/util/ImmutableCollections$AbstractImmutableMap" (some 23) with
  accessFlags := 1056
  interfaces := #[2]
  cf := some (fileOf pool24 14 #[.nestHost 8] #[{ accessFlags := 0, nameIndex := 5, descriptorIndex := 6, attributes := #[] }] 1056 2 #[19] #[])
  fields := #[]
  methods := #[k24m0]
  instanceTypes := #[(.object "java/util/Set"), (.object "java/util/Collection")]
  staticTypes := #[]
  resolved := Array.replicate 87 none
  statics := none }

def pool25 : Array CpInfo := pool [(1, .class_ 2), (0, u "java/util/ImmutableCollections"), (1, .class_ 6), (1, u "java/util/ImmutableCollections$AbstractImmutableMap"), (10, .class_ 19), (1, u "java/util/ImmutableCollections$MapN"), (0, u "size"), (0, u "I"), (4, u "table"), (0, u "[Ljava/lang/Object;")] 121

/-- java/util/ImmutableCollections$MapN -/
def k25 : Class := { plain "java/util/ImmutableCollections$MapN" (some 24) with
  accessFlags := 48
  interfaces := #[]
  cf := some (fileOf pool25 17 #[.nestHost 1] #[] 48 4 #[] #[{ accessFlags := 16, nameIndex := 26, descriptorIndex := 27, attributes := #[] }, { accessFlags := 16, nameIndex := 20, descriptorIndex := 21, attributes := #[] }])
  fields := #[{ name := "table", type := (.array (.object "java/lang/Object")), accessFlags := 16, slot := 2, constantValue := 0 }, { name := "size", type := .int, accessFlags := 16, slot := 3, constantValue := 0 }]
  methods := #[]
  instanceTypes := #[(.object "java/util/Set"), (.object "java/util/Collection"), (.array (.object "java/lang/Object")), .int]
  staticTypes := #[]
  resolved := Array.replicate 149 none
  statics := none }

def pool26 : Array CpInfo := pool [(1, u "java/lang/Cloneable"), (0, .class_ 1), (0, u "java/lang/Object"), (0, .class_ 3)] 3

/-- java/lang/Cloneable -/
def k26 : Class := { plain "java/lang/Cloneable" (some 0) with
  accessFlags := 1537
  interfaces := #[]
  cf := some (fileOf pool26 2 #[] #[] 1537 4 #[] #[])
  fields := #[]
  methods := #[]
  instanceTypes := #[]
  staticTypes := #[]
  resolved := Array.replicate 8 none
  statics := none }

/-- the primitive byte -/
def k27 : Class := { plain "byte" none with kind := .primitive 'B', accessFlags := 0x411 }
/-- [B -/
def k28 : Class := { plain "[B" (some 0) with kind := .array 27 .byte, interfaces := #[26, 2], accessFlags := 1041 }

/-- the primitive char -/
def k29 : Class := { plain "char" none with kind := .primitive 'C', accessFlags := 0x411 }
/-- [C -/
def k30 : Class := { plain "[C" (some 0) with kind := .array 29 .char, interfaces := #[26, 2], accessFlags := 1041 }

/-- the primitive int -/
def k31 : Class := { plain "int" none with kind := .primitive 'I', accessFlags := 0x411 }
/-- [I -/
def k32 : Class := { plain "[I" (some 0) with kind := .array 31 .int, interfaces := #[26, 2], accessFlags := 1041 }

/-- [Ljava/lang/Object; -/
def k33 : Class := { plain "[Ljava/lang/Object;" (some 0) with kind := .array 0 (.object "java/lang/Object"), interfaces := #[26, 2], accessFlags := 1041 }

def heap : Heap := #[{ cls := 7, slots := #[.long 0, .int 1, .null, .int 0, .null, .int 0, .int 0], vm := .statics 7 },
  { cls := 13, slots := #[.long 0, .int 0, .null, .null, .null, .null, .ref 5, .ref 6, .int 0, .int 0], vm := .statics 13 },
  { cls := 21, slots := #[.null, .null, .null], vm := .statics 21 },
  { cls := 33, slots := #[], vm := .none },
  { cls := 33, slots := #[], vm := .none },
  { cls := 18, slots := #[.ref 3, .int 0], vm := .none },
  { cls := 25, slots := #[.null, .null, .ref 4, .int 0], vm := .none }]
def classes : Array Class := #[k0, k1, k2, k3, k4, k5, k6, k7, k8, k9, k10, k11, k12, k13, k14, k15, k16, k17, k18, k19, k20, k21, k22, k23, k24, k25, k26, k27, k28, k29, k30, k31, k32, k33]
def interned : List (Array UInt16 × Addr) := []
def slotsUsed : Nat := 26
def theMethod : MethodId := ⟨1, 1⟩
def args0 : Array Value := #[.int 5, .int 6, .int 7, .int 8, .int 9, .int 10]
def aboutOver (below : List Frame) : State where
  vm := { classes := classes, interned := interned.toArray }
  heap := heap
  slotsUsed := slotsUsed
  threads := #[{ frames := .invoking theMethod args0 :: below }]
def below0 : List Frame := [.native { method := ⟨0, 0⟩, args := #[] }]
def about1 : State := aboutOver below0
def p0 : Program := .bare "" "" ""
def e0 : Env := launch0.env 0 0 0
theorem w_frames : about1.frames = Frame.invoking theMethod args0 :: below0 := rfl
set_option maxRecDepth 65536 in
theorem w_args : argsFit about1.vm theMethod args0 = true := by decide +kernel
set_option maxRecDepth 65536 in
theorem w_heap : heapFits about1 = true := by decide +kernel
set_option maxRecDepth 65536 in
theorem w_runnable : about1.curStatus? = some .runnable := by decide +kernel
set_option maxRecDepth 65536 in
theorem w_alone : about1.alone = true := by decide +kernel
set_option maxRecDepth 65536 in
theorem w_named : about1.methodNamed? x = some theMethod := by decide +kernel
set_option maxRecDepth 65536 in
theorem w_hears : about1.hears theMethod below0 = true := by decide +kernel
set_option maxRecDepth 65536 in
theorem w_ripe : about1.ripe theMethod args0 below0 = true := by decide +kernel
theorem w_running : about1.status = .running := rfl
set_option maxRecDepth 65536 in
theorem w_room : about1.hasRoom e0.platform room_1 = true :=
  launch0.hasRoom_least _ room_1 (by decide +kernel) (by decide +kernel) (by decide +kernel) (by decide +kernel) (by decide +kernel) (by decide +kernel)
theorem allAtoms_all (ts : List Jvm.Cond) (a : Array Jvm.Value) (st : Jvm.State) : (allAtoms ts).before a st = ts.all (fun c => c.before a st) := by
  induction ts with
  | nil => rfl
  | cons c t ih =>
    show (Jvm.Cond.and c (allAtoms t)).before a st = _
    rw [Jvm.Cond.before_and, ih, List.all_cons]
def words1 : List Jvm.Cond := Jvm.Cond.code x code maxLocals ret :: tables_1
/-- a 'code' word, met by the world's own term for the bytes: nothing is compared byte by byte -/
theorem code_word {y : MethodName} {bytes : ByteArray} {mx : Nat} {rt : Option FieldType} {a : Array Value} {s : State} {m : MethodId} {meth : Method} {c : Code} (h1 : s.methodNamed? y = some m) (h2 : s.vm.method? m = some meth) (h3 : meth.code = some c) (h4 : c.code = bytes)
    (h5 : (c.maxLocals == mx && c.exceptionTable.isEmpty && decide (c.maxStack ≤ mostOperands) && decide (meth.sig.returnType = rt) && !meth.locks && decide (parseMethodDescriptor y.desc = some meth.sig)) = true) : (Jvm.Cond.code y bytes mx rt).before a s = true := by
  simp only [Bool.and_eq_true, beq_iff_eq, Bool.not_eq_true', decide_eq_true_eq] at h5
  obtain ⟨⟨⟨⟨⟨g1, g2⟩, g3⟩, g4⟩, g5⟩, g6⟩ := h5
  simp [Cond.before, Cond.holds, Cond.value, h1, h2, h3, h4, g1, g2, g3, g4, g5, g6]
def isCode : Jvm.Cond → Bool
  | .code _ _ _ _ => true
  | _ => false
theorem all_split {L : List Jvm.Cond} {P : Jvm.Cond → Bool} (h1 : L.all (fun c => isCode c || P c) = true) (h2 : ∀ c ∈ L.filter isCode, P c = true) : L.all P = true := by
  refine List.all_eq_true.mpr fun c hc => ?_
  have h := List.all_eq_true.mp h1 c hc
  rcases Bool.eq_false_or_eq_true (isCode c) with hi | hi
  · exact h2 c (List.mem_filter.mpr ⟨hc, hi⟩)
  · simpa [hi] using h
set_option maxRecDepth 65536 in
theorem w_c0 : (Jvm.Cond.code x code maxLocals ret).before args0 about1 = true := code_word (m := ⟨1, 1⟩) (meth := k1m1) (c := k1c1) (by decide +kernel) rfl rfl rfl (by decide +kernel)
set_option maxRecDepth 65536 in
theorem w_c1 : (Jvm.Cond.code ({ cls := "com/example/gate_authz/gateauthz/core/CallerInvalidTokenPinLaw", name := "str", desc := "(IIII)Ljava/lang/String;" } : Jvm.MethodName) method_3_code (8 : Nat) (Option.some (Jvm.ClassFile.FieldType.object "java/lang/String"))).before args0 about1 = true := code_word (m := ⟨1, 2⟩) (meth := k1m2) (c := k1c2) (by decide +kernel) rfl rfl rfl (by decide +kernel)
set_option maxRecDepth 65536 in
theorem w_c2 : (Jvm.Cond.code ({ cls := "java/lang/String", name := "<init>", desc := "([C)V" } : Jvm.MethodName) jdk_42_method_3_code (2 : Nat) (Option.none : Option Jvm.ClassFile.FieldType)).before args0 about1 = true := code_word (m := ⟨7, 1⟩) (meth := k7m1) (c := k7c1) (by decide +kernel) rfl rfl rfl (by decide +kernel)
set_option maxRecDepth 65536 in
theorem w_c3 : (Jvm.Cond.code ({ cls := "java/lang/String", name := "<init>", desc := "([CIILjava/lang/Void;)V" } : Jvm.MethodName) jdk_42_method_149_code (6 : Nat) (Option.none : Option Jvm.ClassFile.FieldType)).before args0 about1 = true := code_word (m := ⟨7, 4⟩) (meth := k7m4) (c := k7c4) (by decide +kernel) rfl rfl rfl (by decide +kernel)
set_option maxRecDepth 65536 in
theorem w_c4 : (Jvm.Cond.code ({ cls := "java/lang/Object", name := "<init>", desc := "()V" } : Jvm.MethodName) object_method_1_code (1 : Nat) (Option.none : Option Jvm.ClassFile.FieldType)).before args0 about1 = true := code_word (m := ⟨0, 0⟩) (meth := k0m0) (c := k0c0) (by decide +kernel) rfl rfl rfl (by decide +kernel)
set_option maxRecDepth 65536 in
theorem w_c5 : (Jvm.Cond.code ({ cls := "com/example/gate_authz/gateauthz/core/Caller", name := "invalidToken", desc := "(Ljava/lang/String;)Lcom/example/gate_authz/gateauthz/core/Caller;" } : Jvm.MethodName) prog_2_method_8_code (1 : Nat) (Option.some (Jvm.ClassFile.FieldType.object "com/example/gate_authz/gateauthz/core/Caller"))).before args0 about1 = true := code_word (m := ⟨8, 1⟩) (meth := k8m1) (c := k8c1) (by decide +kernel) rfl rfl rfl (by decide +kernel)
set_option maxRecDepth 65536 in
theorem w_c6 : (Jvm.Cond.code ({ cls := "java/util/Objects", name := "requireNonNull", desc := "(Ljava/lang/Object;Ljava/lang/String;)Ljava/lang/Object;" } : Jvm.MethodName) jdk_31_method_11_code (2 : Nat) (Option.some (Jvm.ClassFile.FieldType.object "java/lang/Object"))).before args0 about1 = true := code_word (m := ⟨9, 2⟩) (meth := k9m2) (c := k9c2) (by decide +kernel) rfl rfl rfl (by decide +kernel)
set_option maxRecDepth 65536 in
theorem w_c7 : (Jvm.Cond.code ({ cls := "com/example/gate_authz/gateauthz/core/Caller", name := "<init>", desc := "(Ljava/lang/String;)V" } : Jvm.MethodName) prog_2_method_6_code (2 : Nat) (Option.none : Option Jvm.ClassFile.FieldType)).before args0 about1 = true := code_word (m := ⟨8, 0⟩) (meth := k8m0) (c := k8c0) (by decide +kernel) rfl rfl rfl (by decide +kernel)
set_option maxRecDepth 65536 in
theorem w_c8 : (Jvm.Cond.code ({ cls := "java/util/Set", name := "of", desc := "()Ljava/util/Set;" } : Jvm.MethodName) jdk_96_method_17_code (0 : Nat) (Option.some (Jvm.ClassFile.FieldType.object "java/util/Set"))).before args0 about1 = true := code_word (m := ⟨12, 1⟩) (meth := k12m1) (c := k12c1) (by decide +kernel) rfl rfl rfl (by decide +kernel)
set_option maxRecDepth 65536 in
theorem w_c9 : (Jvm.Cond.code ({ cls := "java/util/Map", name := "of", desc := "()Ljava/util/Map;" } : Jvm.MethodName) jdk_72_method_26_code (0 : Nat) (Option.some (Jvm.ClassFile.FieldType.object "java/util/Map"))).before args0 about1 = true := code_word (m := ⟨14, 0⟩) (meth := k14m0) (c := k14c0) (by decide +kernel) rfl rfl rfl (by decide +kernel)
set_option maxRecDepth 65536 in
theorem w_c10 : (Jvm.Cond.code ({ cls := "com/example/gate_authz/gateauthz/core/Caller", name := "getTokenProblem", desc := "()Ljava/lang/String;" } : Jvm.MethodName) prog_2_method_12_code (1 : Nat) (Option.some (Jvm.ClassFile.FieldType.object "java/lang/String"))).before args0 about1 = true := code_word (m := ⟨8, 3⟩) (meth := k8m3) (c := k8c3) (by decide +kernel) rfl rfl rfl (by decide +kernel)
set_option maxRecDepth 65536 in
theorem w_c11 : (Jvm.Cond.code ({ cls := "java/lang/String", name := "equals", desc := "(Ljava/lang/Object;)Z" } : Jvm.MethodName) jdk_42_method_66_code (3 : Nat) (Option.some Jvm.ClassFile.FieldType.boolean)).before args0 about1 = true := code_word (m := ⟨7, 2⟩) (meth := k7m2) (c := k7c2) (by decide +kernel) rfl rfl rfl (by decide +kernel)
set_option maxRecDepth 65536 in
theorem w_c12 : (Jvm.Cond.code ({ cls := "com/example/gate_authz/gateauthz/core/Caller", name := "isAuthenticated", desc := "()Z" } : Jvm.MethodName) prog_2_method_11_code (1 : Nat) (Option.some Jvm.ClassFile.FieldType.boolean)).before args0 about1 = true := code_word (m := ⟨8, 2⟩) (meth := k8m2) (c := k8c2) (by decide +kernel) rfl rfl rfl (by decide +kernel)
set_option maxRecDepth 65536 in
theorem w_c13 : (Jvm.Cond.code ({ cls := "com/example/gate_authz/gateauthz/core/Caller", name := "getUserId", desc := "()Ljava/lang/String;" } : Jvm.MethodName) prog_2_method_14_code (1 : Nat) (Option.some (Jvm.ClassFile.FieldType.object "java/lang/String"))).before args0 about1 = true := code_word (m := ⟨8, 5⟩) (meth := k8m5) (c := k8c5) (by decide +kernel) rfl rfl rfl (by decide +kernel)
set_option maxRecDepth 65536 in
theorem w_c14 : (Jvm.Cond.code ({ cls := "com/example/gate_authz/gateauthz/core/Caller", name := "getTenantId", desc := "()Ljava/lang/String;" } : Jvm.MethodName) prog_2_method_15_code (1 : Nat) (Option.some (Jvm.ClassFile.FieldType.object "java/lang/String"))).before args0 about1 = true := code_word (m := ⟨8, 6⟩) (meth := k8m6) (c := k8c6) (by decide +kernel) rfl rfl rfl (by decide +kernel)
set_option maxRecDepth 65536 in
theorem w_c15 : (Jvm.Cond.code ({ cls := "com/example/gate_authz/gateauthz/core/Caller", name := "getPermissionsProblem", desc := "()Ljava/lang/String;" } : Jvm.MethodName) prog_2_method_13_code (1 : Nat) (Option.some (Jvm.ClassFile.FieldType.object "java/lang/String"))).before args0 about1 = true := code_word (m := ⟨8, 4⟩) (meth := k8m4) (c := k8c4) (by decide +kernel) rfl rfl rfl (by decide +kernel)
set_option maxRecDepth 65536 in
theorem w_c16 : (Jvm.Cond.code ({ cls := "com/example/gate_authz/gateauthz/core/Caller", name := "hasPermission", desc := "(Ljava/lang/String;)Z" } : Jvm.MethodName) prog_2_method_19_code (2 : Nat) (Option.some Jvm.ClassFile.FieldType.boolean)).before args0 about1 = true := code_word (m := ⟨8, 7⟩) (meth := k8m7) (c := k8c7) (by decide +kernel) rfl rfl rfl (by decide +kernel)
set_option maxRecDepth 65536 in
theorem w_c17 : (Jvm.Cond.code ({ cls := "java/util/ImmutableCollections$SetN", name := "contains", desc := "(Ljava/lang/Object;)Z" } : Jvm.MethodName) jdk_132_method_4_code (2 : Nat) (Option.some Jvm.ClassFile.FieldType.boolean)).before args0 about1 = true := code_word (m := ⟨18, 0⟩) (meth := k18m0) (c := k18c0) (by decide +kernel) rfl rfl rfl (by decide +kernel)
set_option maxRecDepth 65536 in
theorem w_c18 : (Jvm.Cond.code ({ cls := "java/util/Objects", name := "requireNonNull", desc := "(Ljava/lang/Object;)Ljava/lang/Object;" } : Jvm.MethodName) jdk_31_method_10_code (1 : Nat) (Option.some (Jvm.ClassFile.FieldType.object "java/lang/Object"))).before args0 about1 = true := code_word (m := ⟨9, 1⟩) (meth := k9m1) (c := k9c1) (by decide +kernel) rfl rfl rfl (by decide +kernel)
set_option maxRecDepth 65536 in
theorem w_c19 : (Jvm.Cond.code ({ cls := "com/example/gate_authz/gateauthz/core/Caller", name := "hasRole", desc := "(Ljava/lang/String;)Z" } : Jvm.MethodName) prog_2_method_20_code (2 : Nat) (Option.some Jvm.ClassFile.FieldType.boolean)).before args0 about1 = true := code_word (m := ⟨8, 8⟩) (meth := k8m8) (c := k8c8) (by decide +kernel) rfl rfl rfl (by decide +kernel)
set_option maxRecDepth 65536 in
theorem w_c20 : (Jvm.Cond.code ({ cls := "java/lang/String", name := "valueOf", desc := "(C)Ljava/lang/String;" } : Jvm.MethodName) jdk_42_method_139_code (1 : Nat) (Option.some (Jvm.ClassFile.FieldType.object "java/lang/String"))).before args0 about1 = true := code_word (m := ⟨7, 3⟩) (meth := k7m3) (c := k7c3) (by decide +kernel) rfl rfl rfl (by decide +kernel)
set_option maxRecDepth 65536 in
theorem w_c21 : (Jvm.Cond.code ({ cls := "java/lang/StringLatin1", name := "canEncode", desc := "(C)Z" } : Jvm.MethodName) jdk_43_method_3_code (1 : Nat) (Option.some Jvm.ClassFile.FieldType.boolean)).before args0 about1 = true := code_word (m := ⟨19, 1⟩) (meth := k19m1) (c := k19c1) (by decide +kernel) rfl rfl rfl (by decide +kernel)
set_option maxRecDepth 65536 in
theorem w_c22 : (Jvm.Cond.code ({ cls := "java/lang/StringLatin1", name := "toBytes", desc := "(C)[B" } : Jvm.MethodName) jdk_43_method_46_code (1 : Nat) (Option.some (Jvm.ClassFile.FieldType.array Jvm.ClassFile.FieldType.byte))).before args0 about1 = true := code_word (m := ⟨19, 2⟩) (meth := k19m2) (c := k19c2) (by decide +kernel) rfl rfl rfl (by decide +kernel)
set_option maxRecDepth 65536 in
theorem w_c23 : (Jvm.Cond.code ({ cls := "java/lang/String", name := "<init>", desc := "([BB)V" } : Jvm.MethodName) jdk_42_method_151_code (3 : Nat) (Option.none : Option Jvm.ClassFile.FieldType)).before args0 about1 = true := code_word (m := ⟨7, 5⟩) (meth := k7m5) (c := k7c5) (by decide +kernel) rfl rfl rfl (by decide +kernel)
set_option maxRecDepth 65536 in
theorem w_c24 : (Jvm.Cond.code ({ cls := "java/lang/StringUTF16", name := "compress", desc := "([CII)[B" } : Jvm.MethodName) jdk_52_method_16_code (6 : Nat) (Option.some (Jvm.ClassFile.FieldType.array Jvm.ClassFile.FieldType.byte))).before args0 about1 = true := code_word (m := ⟨20, 2⟩) (meth := k20m2) (c := k20c2) (by decide +kernel) rfl rfl rfl (by decide +kernel)
set_option maxRecDepth 65536 in
theorem w_c25 : (Jvm.Cond.code ({ cls := "java/lang/StringUTF16", name := "compress", desc := "([CI[BII)I" } : Jvm.MethodName) jdk_52_method_21_code (7 : Nat) (Option.some Jvm.ClassFile.FieldType.int)).before args0 about1 = true := code_word (m := ⟨20, 3⟩) (meth := k20m3) (c := k20c3) (by decide +kernel) rfl rfl rfl (by decide +kernel)
set_option maxRecDepth 65536 in
theorem w_c26 : (Jvm.Cond.code ({ cls := "java/lang/StringUTF16", name := "coderFromArrayLen", desc := "([BI)B" } : Jvm.MethodName) jdk_52_method_15_code (2 : Nat) (Option.some Jvm.ClassFile.FieldType.byte)).before args0 about1 = true := code_word (m := ⟨20, 1⟩) (meth := k20m1) (c := k20c1) (by decide +kernel) rfl rfl rfl (by decide +kernel)
def codes1 : List Jvm.Cond := [Jvm.Cond.code x code maxLocals ret, Jvm.Cond.code ({ cls := "com/example/gate_authz/gateauthz/core/CallerInvalidTokenPinLaw", name := "str", desc := "(IIII)Ljava/lang/String;" } : Jvm.MethodName) method_3_code (8 : Nat) (Option.some (Jvm.ClassFile.FieldType.object "java/lang/String")), Jvm.Cond.code ({ cls := "java/lang/String", name := "<init>", desc := "([C)V" } : Jvm.MethodName) jdk_42_method_3_code (2 : Nat) (Option.none : Option Jvm.ClassFile.FieldType), Jvm.Cond.code ({ cls := "java/lang/String", name := "<init>", desc := "([CIILjava/lang/Void;)V" } : Jvm.MethodName) jdk_42_method_149_code (6 : Nat) (Option.none : Option Jvm.ClassFile.FieldType), Jvm.Cond.code ({ cls := "java/lang/Object", name := "<init>", desc := "()V" } : Jvm.MethodName) object_method_1_code (1 : Nat) (Option.none : Option Jvm.ClassFile.FieldType), Jvm.Cond.code ({ cls := "com/example/gate_authz/gateauthz/core/Caller", name := "invalidToken", desc := "(Ljava/lang/String;)Lcom/example/gate_authz/gateauthz/core/Caller;" } : Jvm.MethodName) prog_2_method_8_code (1 : Nat) (Option.some (Jvm.ClassFile.FieldType.object "com/example/gate_authz/gateauthz/core/Caller")), Jvm.Cond.code ({ cls := "java/util/Objects", name := "requireNonNull", desc := "(Ljava/lang/Object;Ljava/lang/String;)Ljava/lang/Object;" } : Jvm.MethodName) jdk_31_method_11_code (2 : Nat) (Option.some (Jvm.ClassFile.FieldType.object "java/lang/Object")), Jvm.Cond.code ({ cls := "com/example/gate_authz/gateauthz/core/Caller", name := "<init>", desc := "(Ljava/lang/String;)V" } : Jvm.MethodName) prog_2_method_6_code (2 : Nat) (Option.none : Option Jvm.ClassFile.FieldType), Jvm.Cond.code ({ cls := "java/util/Set", name := "of", desc := "()Ljava/util/Set;" } : Jvm.MethodName) jdk_96_method_17_code (0 : Nat) (Option.some (Jvm.ClassFile.FieldType.object "java/util/Set")), Jvm.Cond.code ({ cls := "java/util/Map", name := "of", desc := "()Ljava/util/Map;" } : Jvm.MethodName) jdk_72_method_26_code (0 : Nat) (Option.some (Jvm.ClassFile.FieldType.object "java/util/Map")), Jvm.Cond.code ({ cls := "com/example/gate_authz/gateauthz/core/Caller", name := "getTokenProblem", desc := "()Ljava/lang/String;" } : Jvm.MethodName) prog_2_method_12_code (1 : Nat) (Option.some (Jvm.ClassFile.FieldType.object "java/lang/String")), Jvm.Cond.code ({ cls := "java/lang/String", name := "equals", desc := "(Ljava/lang/Object;)Z" } : Jvm.MethodName) jdk_42_method_66_code (3 : Nat) (Option.some Jvm.ClassFile.FieldType.boolean), Jvm.Cond.code ({ cls := "com/example/gate_authz/gateauthz/core/Caller", name := "isAuthenticated", desc := "()Z" } : Jvm.MethodName) prog_2_method_11_code (1 : Nat) (Option.some Jvm.ClassFile.FieldType.boolean), Jvm.Cond.code ({ cls := "com/example/gate_authz/gateauthz/core/Caller", name := "getUserId", desc := "()Ljava/lang/String;" } : Jvm.MethodName) prog_2_method_14_code (1 : Nat) (Option.some (Jvm.ClassFile.FieldType.object "java/lang/String")), Jvm.Cond.code ({ cls := "com/example/gate_authz/gateauthz/core/Caller", name := "getTenantId", desc := "()Ljava/lang/String;" } : Jvm.MethodName) prog_2_method_15_code (1 : Nat) (Option.some (Jvm.ClassFile.FieldType.object "java/lang/String")), Jvm.Cond.code ({ cls := "com/example/gate_authz/gateauthz/core/Caller", name := "getPermissionsProblem", desc := "()Ljava/lang/String;" } : Jvm.MethodName) prog_2_method_13_code (1 : Nat) (Option.some (Jvm.ClassFile.FieldType.object "java/lang/String")), Jvm.Cond.code ({ cls := "com/example/gate_authz/gateauthz/core/Caller", name := "hasPermission", desc := "(Ljava/lang/String;)Z" } : Jvm.MethodName) prog_2_method_19_code (2 : Nat) (Option.some Jvm.ClassFile.FieldType.boolean), Jvm.Cond.code ({ cls := "java/util/ImmutableCollections$SetN", name := "contains", desc := "(Ljava/lang/Object;)Z" } : Jvm.MethodName) jdk_132_method_4_code (2 : Nat) (Option.some Jvm.ClassFile.FieldType.boolean), Jvm.Cond.code ({ cls := "java/util/Objects", name := "requireNonNull", desc := "(Ljava/lang/Object;)Ljava/lang/Object;" } : Jvm.MethodName) jdk_31_method_10_code (1 : Nat) (Option.some (Jvm.ClassFile.FieldType.object "java/lang/Object")), Jvm.Cond.code ({ cls := "com/example/gate_authz/gateauthz/core/Caller", name := "hasRole", desc := "(Ljava/lang/String;)Z" } : Jvm.MethodName) prog_2_method_20_code (2 : Nat) (Option.some Jvm.ClassFile.FieldType.boolean), Jvm.Cond.code ({ cls := "java/lang/String", name := "valueOf", desc := "(C)Ljava/lang/String;" } : Jvm.MethodName) jdk_42_method_139_code (1 : Nat) (Option.some (Jvm.ClassFile.FieldType.object "java/lang/String")), Jvm.Cond.code ({ cls := "java/lang/StringLatin1", name := "canEncode", desc := "(C)Z" } : Jvm.MethodName) jdk_43_method_3_code (1 : Nat) (Option.some Jvm.ClassFile.FieldType.boolean), Jvm.Cond.code ({ cls := "java/lang/StringLatin1", name := "toBytes", desc := "(C)[B" } : Jvm.MethodName) jdk_43_method_46_code (1 : Nat) (Option.some (Jvm.ClassFile.FieldType.array Jvm.ClassFile.FieldType.byte)), Jvm.Cond.code ({ cls := "java/lang/String", name := "<init>", desc := "([BB)V" } : Jvm.MethodName) jdk_42_method_151_code (3 : Nat) (Option.none : Option Jvm.ClassFile.FieldType), Jvm.Cond.code ({ cls := "java/lang/StringUTF16", name := "compress", desc := "([CII)[B" } : Jvm.MethodName) jdk_52_method_16_code (6 : Nat) (Option.some (Jvm.ClassFile.FieldType.array Jvm.ClassFile.FieldType.byte)), Jvm.Cond.code ({ cls := "java/lang/StringUTF16", name := "compress", desc := "([CI[BII)I" } : Jvm.MethodName) jdk_52_method_21_code (7 : Nat) (Option.some Jvm.ClassFile.FieldType.int), Jvm.Cond.code ({ cls := "java/lang/StringUTF16", name := "coderFromArrayLen", desc := "([BI)B" } : Jvm.MethodName) jdk_52_method_15_code (2 : Nat) (Option.some Jvm.ClassFile.FieldType.byte)]
set_option maxRecDepth 65536 in
theorem codes_eq : words1.filter isCode = codes1 := rfl
theorem w_codes : ∀ c ∈ words1.filter isCode, c.before args0 about1 = true := by
  rw [codes_eq]
  intro c hc
  simp only [codes1, List.mem_cons, List.not_mem_nil, or_false] at hc
  rcases hc with rfl | rfl | rfl | rfl | rfl | rfl | rfl | rfl | rfl | rfl | rfl | rfl | rfl | rfl | rfl | rfl | rfl | rfl | rfl | rfl | rfl | rfl | rfl | rfl | rfl | rfl | rfl
  · exact w_c0
  · exact w_c1
  · exact w_c2
  · exact w_c3
  · exact w_c4
  · exact w_c5
  · exact w_c6
  · exact w_c7
  · exact w_c8
  · exact w_c9
  · exact w_c10
  · exact w_c11
  · exact w_c12
  · exact w_c13
  · exact w_c14
  · exact w_c15
  · exact w_c16
  · exact w_c17
  · exact w_c18
  · exact w_c19
  · exact w_c20
  · exact w_c21
  · exact w_c22
  · exact w_c23
  · exact w_c24
  · exact w_c25
  · exact w_c26
set_option maxRecDepth 65536 in
theorem w_t1 : (words1.take 24).all (fun c => isCode c || c.before args0 about1) = true := by decide +kernel
set_option maxRecDepth 65536 in
theorem w_t2 : ((words1.drop 24).take 24).all (fun c => isCode c || c.before args0 about1) = true := by decide +kernel
set_option maxRecDepth 65536 in
theorem w_t3 : (((words1.drop 24).drop 24).take 24).all (fun c => isCode c || c.before args0 about1) = true := by decide +kernel
set_option maxRecDepth 65536 in
theorem w_t4 : ((((words1.drop 24).drop 24).drop 24).take 24).all (fun c => isCode c || c.before args0 about1) = true := by decide +kernel
set_option maxRecDepth 65536 in
theorem w_t5 : (((((words1.drop 24).drop 24).drop 24).drop 24).take 24).all (fun c => isCode c || c.before args0 about1) = true := by decide +kernel
set_option maxRecDepth 65536 in
theorem w_t6 : ((((((words1.drop 24).drop 24).drop 24).drop 24).drop 24).take 24).all (fun c => isCode c || c.before args0 about1) = true := by decide +kernel
set_option maxRecDepth 65536 in
theorem w_t7 : ((((((words1.drop 24).drop 24).drop 24).drop 24).drop 24).drop 24).all (fun c => isCode c || c.before args0 about1) = true := by decide +kernel
theorem w_tables : (allAtoms (Jvm.Cond.code x code maxLocals ret :: tables_1)).before args0 about1 = true := by
  rw [allAtoms_all]
  show words1.all (fun c => c.before args0 about1) = true
  refine all_split ?_ w_codes
  rw [← List.take_append_drop 24 words1, List.all_append, w_t1, ← List.take_append_drop 24 (words1.drop 24), List.all_append, w_t2, ← List.take_append_drop 24 ((words1.drop 24).drop 24), List.all_append, w_t3, ← List.take_append_drop 24 (((words1.drop 24).drop 24).drop 24), List.all_append, w_t4, ← List.take_append_drop 24 ((((words1.drop 24).drop 24).drop 24).drop 24), List.all_append, w_t5, ← List.take_append_drop 24 (((((words1.drop 24).drop 24).drop 24).drop 24).drop 24), List.all_append, w_t6, w_t7]
  rfl
set_option maxRecDepth 65536 in
theorem w_rest : rest_1_c.before args0 about1 = true := by decide +kernel
set_option maxRecDepth 65536 in
theorem w_case : (Jvm.Cond.and given_1 narrow_1).before args0 about1 = true := by decide +kernel
set_option maxRecDepth 65536 in
theorem w_consts : constsHeld consts_1 about1 := Jvm.Lit.constsHeldB_iff.mp (by decide +kernel)
theorem w_applies : (headSpec (Jvm.Cond.code x code maxLocals ret :: tables_1) room_1).applies x e0.platform about1 = true :=
  (Spec.applies_iff w_frames).mpr ⟨w_running, w_runnable, w_alone, w_named, w_hears, w_ripe, w_room, w_tables⟩
theorem atStart : AtStart classFile x code maxLocals ret World_1 tables_1 room_1 Calls_1 rest_1 Pre_1 launch0 p0 e0 about1 theMethod args0 below0 :=
  ⟨lists_1, trivial, launch0.admits_env _ _ _, launch0.least_env, fairChoices_fair.cas, fairChoices_fair.clock, w_frames, w_args, w_heap, w_applies, ⟨w_consts, trivial⟩, w_rest, w_case⟩
end start1
theorem witness_1 : WitnessClaimed_1 := ⟨start1.p0, start1.e0, start1.about1, start1.theMethod, start1.args0, start1.below0, start1.atStart⟩
end Jvm.Pilot.@@N@@
