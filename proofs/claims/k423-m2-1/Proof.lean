import JvmDerived
import JvmDerived.Pilot.@@N@@Statement
import JvmDerived.Pilot.@@N@@Code
set_option linter.unusedVariables false
set_option linter.unusedSimpArgs false
namespace Jvm.Pilot.@@N@@
open Jvm Jvm.ClassFile Sem Op Lib Jvm.Free Jvm.Stand Jvm.LawKit Jvm.RoadKit Bundle Jvm.Pilot.@@N@@.Jvm.D
section WK
/-! A walk's standing goal in one word: wkP says that from this frame over this heap the body ends as Q says. -/
abbrev EL : List (String × Nat) := consts_1
abbrev wkB : Type := MethodName × ByteArray × Nat × Option FieldType
/-- the cells that may be written: made since the case's start, no literal's, made by this body or handed in as such -/
def wkSf (Z : State) (vm : Vm) (h hs : Heap) (w0 ws : List Addr) : Prop := ∀ x ∈ ws, Z.heap.size ≤ x ∧ x < h.size ∧ Safe Z EL vm h x ∧ (x ∈ w0 ∨ hs.size ≤ x)
def wkAt (p : Program) (l : Launch) (e : Env) (R : Room) (s : State) (m : MethodId) (args : Array Value) (below : List Frame) (meth : Method) (c : Code) (Z : State) (B : wkB) (hs : Heap) (w0 ws : List Addr) (h : Heap) (k n : Nat) (vm0 : Vm) (k0 : Nat) (T : State) (locs : List Loc) : Prop :=
  (p.tables.exec = Jvm.exec ∧ c.code = B.2.1 ∧ c.maxLocals = B.2.2.1 ∧ meth.sig.returnType = B.2.2.2 ∧ meth.locks = false ∧ meth.name = B.1.name) ∧
  Stand p l e R (s.setVm vm0) m args below meth c T locs k n ∧ T.heap = h ∧ (s.Since vm0 k0 ∧ k0 ≤ h.size) ∧ Z.Warmed39 vm0 ∧ vm0.findClass B.1.cls = some m.cls ∧ CHr Z EL s.vm s.heap vm0 h ∧ Fr Z.heap.size locs ∧ Old Z Z.heap.size h ∧ Keep hs h w0 ∧ wkSf Z vm0 h hs w0 ws
def wkEnd (R : Room) (s Z : State) (hs : Heap) (w0 : List Addr) (Q : Option Value → Heap → List Addr → Prop) (U : State) (o : Outcome) : Prop :=
  ∃ v L, o = .returned v ∧ (∃ os, Q v U.heap os ∧ Keep hs U.heap w0 ∧ Fr Z.heap.size L ∧ Old Z Z.heap.size U.heap ∧ wkSf Z U.vm U.heap hs w0 os) ∧ CHr Z EL s.vm s.heap U.vm U.heap ∧ ReturnedEndW s o U L R.cells R.slots
def wkP (l : Launch) (Z : State) (B : wkB) (R : Room) (hs : Heap) (w0 : List Addr) (Q : Option Value → Heap → List Addr → Prop) (ws : List Addr) (h : Heap) (k n pc : Nat) (Ls : Array Slot) (st : List Value) : Prop :=
  ∀ (p : Program) (e : Env) (s : State) (m : MethodId) (args : Array Value) (below : List Frame) (meth : Method) (c : Code) (vm0 : Vm) (k0 : Nat) (T : State) (locs : List Loc), wkAt p l e R s m args below meth c Z B hs w0 ws h k n vm0 k0 T locs →
    ∃ (U : State) (o : Outcome), Steps p.tables e below (T.setTop (mkF m pc Ls st)) U ∧ U.status = .running ∧ Ended U below o ∧ wkEnd R s Z hs w0 Q U o
/-- a body's contract: with these arguments over this heap, writing at most w0 of what stood, it returns as Q says -/
def wkM (l : Launch) (Z : State) (B : wkB) (rm : Room) (as : Array Value) (h : Heap) (w0 : List Addr) (Q : Option Value → Heap → List Addr → Prop) : Prop :=
  Old Z Z.heap.size h → (∀ x ∈ w0, Z.heap.size ≤ x ∧ x < h.size) →
  MetFree l B.1 (head1 [Cond.code B.1 B.2.1 B.2.2.1 B.2.2.2] rm) (fun a U => a = as ∧ Z.Warmed39 U.vm ∧ U.heap = h ∧ CHv Z EL U.vm h ∧ ∀ x ∈ w0, Safe Z EL U.vm h x) (fun _ _ _ _ _ => True) (fun _ U o U' => wkEnd rm U Z h w0 Q U' o)
section Rules
variable {l : Launch} {Z : State} {B : wkB} {R : Room} {hs : Heap} {w0 : List Addr} {Q : Option Value → Heap → List Addr → Prop} {ws : List Addr} {h : Heap} {k n pc : Nat} {Ls : Array Slot} {st : List Value} {a0 : Array Value}
theorem wkP.pure {pc' : Nat} {Ls' : Array Slot} {st' : List Value}
    (hst : ∀ (p : Program) (e : Env) (s : State) (m : MethodId) (args : Array Value) (below : List Frame) (meth : Method) (c : Code) (vm0 : Vm) (T : State) (locs : List Loc), p.tables.exec = Jvm.exec → c.code = B.2.1 → Stand p l e R (s.setVm vm0) m args below meth c T locs k n → ∀ target, Steps p.tables e below (T.setTop (mkF m pc' Ls' st')) target → Steps p.tables e below (T.setTop (mkF m pc Ls st)) target)
    (K : wkP l Z B R hs w0 Q ws h k n pc' Ls' st') : wkP l Z B R hs w0 Q ws h k n pc Ls st := by
  intro p e s m args below meth c vm0 k0 T locs A
  obtain ⟨U, o, q, r⟩ := K p e s m args below meth c vm0 k0 T locs A
  exact ⟨U, o, hst p e s m args below meth c vm0 T locs A.1.1 A.1.2.1 A.2.1 U q, r⟩
theorem wkP.iload (pc' : Nat) {j : Nat} {v : Int32} (hd : decode B.2.1 pc = .ok (.iload j, 2)) (hl : Ls[j]? = some (.val (.int v))) (hp : pc + 2 = pc') (K : wkP l Z B R hs w0 Q ws h k n pc' Ls (.int v :: st)) : wkP l Z B R hs w0 Q ws h k n pc Ls st := by
  subst hp; exact .pure (fun p e s m args below meth c vm0 T locs hx hby X t q => XS.iload X.here hx rfl (hb hby hd) hl q) K
theorem wkP.iloadN (pc' : Nat) {j : Fin 4} {v : Int32} (hd : decode B.2.1 pc = .ok (.iload_n j, 1)) (hl : Ls[j.val]? = some (.val (.int v))) (hp : pc + 1 = pc') (K : wkP l Z B R hs w0 Q ws h k n pc' Ls (.int v :: st)) : wkP l Z B R hs w0 Q ws h k n pc Ls st := by
  subst hp; exact .pure (fun p e s m args below meth c vm0 T locs hx hby X t q => XS.iloadN X.here hx rfl (hb hby hd) hl q) K
theorem wkP.aload (pc' : Nat) {j : Nat} {v : Value} (hd : decode B.2.1 pc = .ok (.aload j, 2)) (hl : Ls[j]? = some (.val v)) (hv : v.isRef = true) (hp : pc + 2 = pc') (K : wkP l Z B R hs w0 Q ws h k n pc' Ls (v :: st)) : wkP l Z B R hs w0 Q ws h k n pc Ls st := by
  subst hp; exact .pure (fun p e s m args below meth c vm0 T locs hx hby X t q => XS.aload X.here hx rfl (hb hby hd) hl hv q) K
theorem wkP.aloadN (pc' : Nat) {j : Fin 4} {v : Value} (hd : decode B.2.1 pc = .ok (.aload_n j, 1)) (hl : Ls[j.val]? = some (.val v)) (hv : v.isRef = true) (hp : pc + 1 = pc') (K : wkP l Z B R hs w0 Q ws h k n pc' Ls (v :: st)) : wkP l Z B R hs w0 Q ws h k n pc Ls st := by
  subst hp; exact .pure (fun p e s m args below meth c vm0 T locs hx hby X t q => XS.aloadN X.here hx rfl (hb hby hd) hl hv q) K
theorem wkP.lload (pc' : Nat) {j : Nat} {v : Int64} (hd : decode B.2.1 pc = .ok (.lload j, 2)) (hl : Ls[j]? = some (.val (.long v))) (hp : pc + 2 = pc') (K : wkP l Z B R hs w0 Q ws h k n pc' Ls (.long v :: st)) : wkP l Z B R hs w0 Q ws h k n pc Ls st := by
  subst hp; exact .pure (fun p e s m args below meth c vm0 T locs hx hby X t q => XS.lload X.here hx rfl (hb hby hd) hl q) K
theorem wkP.lloadN (pc' : Nat) {j : Fin 4} {v : Int64} (hd : decode B.2.1 pc = .ok (.lload_n j, 1)) (hl : Ls[j.val]? = some (.val (.long v))) (hp : pc + 1 = pc') (K : wkP l Z B R hs w0 Q ws h k n pc' Ls (.long v :: st)) : wkP l Z B R hs w0 Q ws h k n pc Ls st := by
  subst hp; exact .pure (fun p e s m args below meth c vm0 T locs hx hby X t q => XS.lloadN X.here hx rfl (hb hby hd) hl q) K
theorem wkP.iconst (pc' : Nat) {i : Int} (v : Int32) (hd : decode B.2.1 pc = .ok (.iconst i, 1)) (hv : Int32.ofInt i = v) (hp : pc + 1 = pc') (K : wkP l Z B R hs w0 Q ws h k n pc' Ls (.int v :: st)) : wkP l Z B R hs w0 Q ws h k n pc Ls st := by
  subst hp hv; exact .pure (fun p e s m args below meth c vm0 T locs hx hby X t q => XS.iconst X.here hx rfl (hb hby hd) q) K
theorem wkP.bipush (pc' : Nat) {i : Int} (v : Int32) (hd : decode B.2.1 pc = .ok (.bipush i, 2)) (hv : (Int8.ofInt i).toInt32 = v) (hp : pc + 2 = pc') (K : wkP l Z B R hs w0 Q ws h k n pc' Ls (.int v :: st)) : wkP l Z B R hs w0 Q ws h k n pc Ls st := by
  subst hp hv; exact .pure (fun p e s m args below meth c vm0 T locs hx hby X t q => XS.bipush X.here hx rfl (hb hby hd) q) K
theorem wkP.sipush (pc' : Nat) {i : Int} (v : Int32) (hd : decode B.2.1 pc = .ok (.sipush i, 3)) (hv : (Int16.ofInt i).toInt32 = v) (hp : pc + 3 = pc') (K : wkP l Z B R hs w0 Q ws h k n pc' Ls (.int v :: st)) : wkP l Z B R hs w0 Q ws h k n pc Ls st := by
  subst hp hv; exact .pure (fun p e s m args below meth c vm0 T locs hx hby X t q => XS.sipush X.here hx rfl (hb hby hd) q) K
theorem wkP.anull (pc' : Nat) (hd : decode B.2.1 pc = .ok (.aconst_null, 1)) (hp : pc + 1 = pc') (K : wkP l Z B R hs w0 Q ws h k n pc' Ls (.null :: st)) : wkP l Z B R hs w0 Q ws h k n pc Ls st := by
  subst hp; exact .pure (fun p e s m args below meth c vm0 T locs hx hby X t q => XS.aconstNull X.here hx rfl (hb hby hd) q) K
theorem wkP.istore (pc' : Nat) {j : Nat} {x : Int32} (Ls' : Array Slot) (hd : decode B.2.1 pc = .ok (.istore j, 2)) (hl : storeLocals Ls j (.int x) = some Ls') (hp : pc + 2 = pc') (K : wkP l Z B R hs w0 Q ws h k n pc' Ls' st) : wkP l Z B R hs w0 Q ws h k n pc Ls (.int x :: st) := by
  subst hp; exact .pure (fun p e s m args below meth c vm0 T locs hx hby X t q => XS.istore X.here hx rfl (hb hby hd) rfl hl q) K
theorem wkP.istoreN (pc' : Nat) {j : Fin 4} {x : Int32} (Ls' : Array Slot) (hd : decode B.2.1 pc = .ok (.istore_n j, 1)) (hl : storeLocals Ls j.val (.int x) = some Ls') (hp : pc + 1 = pc') (K : wkP l Z B R hs w0 Q ws h k n pc' Ls' st) : wkP l Z B R hs w0 Q ws h k n pc Ls (.int x :: st) := by
  subst hp; exact .pure (fun p e s m args below meth c vm0 T locs hx hby X t q => XS.istoreN X.here hx rfl (hb hby hd) rfl hl q) K
theorem wkP.astore (pc' : Nat) {j : Nat} {x : Value} (Ls' : Array Slot) (hd : decode B.2.1 pc = .ok (.astore j, 2)) (hv : x.isRef = true) (hl : storeLocals Ls j x = some Ls') (hp : pc + 2 = pc') (K : wkP l Z B R hs w0 Q ws h k n pc' Ls' st) : wkP l Z B R hs w0 Q ws h k n pc Ls (x :: st) := by
  subst hp; exact .pure (fun p e s m args below meth c vm0 T locs hx hby X t q => XS.astore X.here hx rfl (hb hby hd) rfl hv hl q) K
theorem wkP.astoreN (pc' : Nat) {j : Fin 4} {x : Value} (Ls' : Array Slot) (hd : decode B.2.1 pc = .ok (.astore_n j, 1)) (hv : x.isRef = true) (hl : storeLocals Ls j.val x = some Ls') (hp : pc + 1 = pc') (K : wkP l Z B R hs w0 Q ws h k n pc' Ls' st) : wkP l Z B R hs w0 Q ws h k n pc Ls (x :: st) := by
  subst hp; exact .pure (fun p e s m args below meth c vm0 T locs hx hby X t q => XS.astoreN X.here hx rfl (hb hby hd) rfl hv hl q) K
theorem wkP.lstore (pc' : Nat) {j : Nat} {x : Int64} (Ls' : Array Slot) (hd : decode B.2.1 pc = .ok (.lstore j, 2)) (hl : storeLocals Ls j (.long x) = some Ls') (hp : pc + 2 = pc') (K : wkP l Z B R hs w0 Q ws h k n pc' Ls' st) : wkP l Z B R hs w0 Q ws h k n pc Ls (.long x :: st) := by
  subst hp; exact .pure (fun p e s m args below meth c vm0 T locs hx hby X t q => XS.lstore X.here hx rfl (hb hby hd) rfl hl q) K
theorem wkP.iinc (pc' : Nat) {j : Nat} {cst : Int} {x : Int32} (y : Int32) (Ls' : Array Slot) (hd : decode B.2.1 pc = .ok (.iinc j cst, 3)) (hl : Ls[j]? = some (.val (.int x))) (hy : x + Int32.ofInt cst = y) (hl' : storeLocals Ls j (.int y) = some Ls') (hp : pc + 3 = pc') (K : wkP l Z B R hs w0 Q ws h k n pc' Ls' st) : wkP l Z B R hs w0 Q ws h k n pc Ls st := by
  subst hp hy; exact .pure (fun p e s m args below meth c vm0 T locs hx hby X t q => XS.iinc X.here hx rfl (hb hby hd) hl hl' q) K
theorem wkP.dup (pc' : Nat) {x : Value} (hd : decode B.2.1 pc = .ok (.dup, 1)) (hc : x.category = 1) (hp : pc + 1 = pc') (K : wkP l Z B R hs w0 Q ws h k n pc' Ls (x :: x :: st)) : wkP l Z B R hs w0 Q ws h k n pc Ls (x :: st) := by
  subst hp; exact .pure (fun p e s m args below meth c vm0 T locs hx hby X t q => XS.dup X.here hx rfl (hb hby hd) rfl hc q) K
theorem wkP.dupX1 (pc' : Nat) {x y : Value} (hd : decode B.2.1 pc = .ok (.dup_x1, 1)) (hc : x.category = 1) (hc' : y.category = 1) (hp : pc + 1 = pc') (K : wkP l Z B R hs w0 Q ws h k n pc' Ls (x :: y :: x :: st)) : wkP l Z B R hs w0 Q ws h k n pc Ls (x :: y :: st) := by
  subst hp; exact .pure (fun p e s m args below meth c vm0 T locs hx hby X t q => XS.dupX1 X.here hx rfl (hb hby hd) rfl hc hc' q) K
theorem wkP.pop (pc' : Nat) {x : Value} (hd : decode B.2.1 pc = .ok (.pop, 1)) (hc : x.category = 1) (hp : pc + 1 = pc') (K : wkP l Z B R hs w0 Q ws h k n pc' Ls st) : wkP l Z B R hs w0 Q ws h k n pc Ls (x :: st) := by
  subst hp; exact .pure (fun p e s m args below meth c vm0 T locs hx hby X t q => XS.pop X.here hx rfl (hb hby hd) rfl hc q) K
theorem wkP.iadd (pc' : Nat) {x y : Int32} (v : Int32) (hd : decode B.2.1 pc = .ok (.iadd, 1)) (hv : x + y = v) (hp : pc + 1 = pc') (K : wkP l Z B R hs w0 Q ws h k n pc' Ls (.int v :: st)) : wkP l Z B R hs w0 Q ws h k n pc Ls (.int y :: .int x :: st) := by
  subst hp hv; exact .pure (fun p e s m args below meth c vm0 T locs hx hby X t q => XS.iadd X.here hx rfl (hb hby hd) rfl q) K
theorem wkP.isub (pc' : Nat) {x y : Int32} (v : Int32) (hd : decode B.2.1 pc = .ok (.isub, 1)) (hv : x - y = v) (hp : pc + 1 = pc') (K : wkP l Z B R hs w0 Q ws h k n pc' Ls (.int v :: st)) : wkP l Z B R hs w0 Q ws h k n pc Ls (.int y :: .int x :: st) := by
  subst hp hv; exact .pure (fun p e s m args below meth c vm0 T locs hx hby X t q => XS.isub X.here hx rfl (hb hby hd) rfl q) K
theorem wkP.imul (pc' : Nat) {x y : Int32} (v : Int32) (hd : decode B.2.1 pc = .ok (.imul, 1)) (hv : x * y = v) (hp : pc + 1 = pc') (K : wkP l Z B R hs w0 Q ws h k n pc' Ls (.int v :: st)) : wkP l Z B R hs w0 Q ws h k n pc Ls (.int y :: .int x :: st) := by
  subst hp hv; exact .pure (fun p e s m args below meth c vm0 T locs hx hby X t q => XS.imul X.here hx rfl (hb hby hd) rfl q) K
theorem wkP.idiv (pc' : Nat) {x y : Int32} (v : Int32) (hd : decode B.2.1 pc = .ok (.idiv, 1)) (hy : y ≠ 0) (hv : x / y = v) (hp : pc + 1 = pc') (K : wkP l Z B R hs w0 Q ws h k n pc' Ls (.int v :: st)) : wkP l Z B R hs w0 Q ws h k n pc Ls (.int y :: .int x :: st) := by
  subst hp hv; exact .pure (fun p e s m args below meth c vm0 T locs hx hby X t q => XS.idiv X.here hx rfl (hb hby hd) rfl hy q) K
theorem wkP.irem (pc' : Nat) {x y : Int32} (v : Int32) (hd : decode B.2.1 pc = .ok (.irem, 1)) (hy : y ≠ 0) (hv : x % y = v) (hp : pc + 1 = pc') (K : wkP l Z B R hs w0 Q ws h k n pc' Ls (.int v :: st)) : wkP l Z B R hs w0 Q ws h k n pc Ls (.int y :: .int x :: st) := by
  subst hp hv; exact .pure (fun p e s m args below meth c vm0 T locs hx hby X t q => iremM X hx rfl (hb hby hd) rfl hy q) K
theorem wkP.iand (pc' : Nat) {x y : Int32} (v : Int32) (hd : decode B.2.1 pc = .ok (.iand, 1)) (hv : x &&& y = v) (hp : pc + 1 = pc') (K : wkP l Z B R hs w0 Q ws h k n pc' Ls (.int v :: st)) : wkP l Z B R hs w0 Q ws h k n pc Ls (.int y :: .int x :: st) := by
  subst hp hv; exact .pure (fun p e s m args below meth c vm0 T locs hx hby X t q => XS.iand X.here hx rfl (hb hby hd) rfl q) K
theorem wkP.ior (pc' : Nat) {x y : Int32} (v : Int32) (hd : decode B.2.1 pc = .ok (.ior, 1)) (hv : x ||| y = v) (hp : pc + 1 = pc') (K : wkP l Z B R hs w0 Q ws h k n pc' Ls (.int v :: st)) : wkP l Z B R hs w0 Q ws h k n pc Ls (.int y :: .int x :: st) := by
  subst hp hv; exact .pure (fun p e s m args below meth c vm0 T locs hx hby X t q => XS.ior X.here hx rfl (hb hby hd) rfl q) K
theorem wkP.ishl (pc' : Nat) {x y : Int32} (v : Int32) (hd : decode B.2.1 pc = .ok (.ishl, 1)) (hv : x <<< (y &&& 31) = v) (hp : pc + 1 = pc') (K : wkP l Z B R hs w0 Q ws h k n pc' Ls (.int v :: st)) : wkP l Z B R hs w0 Q ws h k n pc Ls (.int y :: .int x :: st) := by
  subst hp hv; exact .pure (fun p e s m args below meth c vm0 T locs hx hby X t q => XS.ishl X.here hx rfl (hb hby hd) rfl q) K
theorem wkP.ishr (pc' : Nat) {x y : Int32} (v : Int32) (hd : decode B.2.1 pc = .ok (.ishr, 1)) (hv : x >>> (y &&& 31) = v) (hp : pc + 1 = pc') (K : wkP l Z B R hs w0 Q ws h k n pc' Ls (.int v :: st)) : wkP l Z B R hs w0 Q ws h k n pc Ls (.int y :: .int x :: st) := by
  subst hp hv; exact .pure (fun p e s m args below meth c vm0 T locs hx hby X t q => XS.ishr X.here hx rfl (hb hby hd) rfl q) K
theorem wkP.iushr (pc' : Nat) {x y : Int32} (v : Int32) (hd : decode B.2.1 pc = .ok (.iushr, 1)) (hv : (x.toUInt32 >>> (y &&& 31).toUInt32).toInt32 = v) (hp : pc + 1 = pc') (K : wkP l Z B R hs w0 Q ws h k n pc' Ls (.int v :: st)) : wkP l Z B R hs w0 Q ws h k n pc Ls (.int y :: .int x :: st) := by
  subst hp hv; exact .pure (fun p e s m args below meth c vm0 T locs hx hby X t q => XS.iushr X.here hx rfl (hb hby hd) rfl q) K
theorem wkP.i2b (pc' : Nat) {x : Int32} (v : Int32) (hd : decode B.2.1 pc = .ok (.i2b, 1)) (hv : x.toInt8.toInt32 = v) (hp : pc + 1 = pc') (K : wkP l Z B R hs w0 Q ws h k n pc' Ls (.int v :: st)) : wkP l Z B R hs w0 Q ws h k n pc Ls (.int x :: st) := by
  subst hp hv; exact .pure (fun p e s m args below meth c vm0 T locs hx hby X t q => XS.i2b X.here hx rfl (hb hby hd) rfl q) K
theorem wkP.i2c (pc' : Nat) {x : Int32} (v : Int32) (hd : decode B.2.1 pc = .ok (.i2c, 1)) (hv : x.toUInt32.toUInt16.toUInt32.toInt32 = v) (hp : pc + 1 = pc') (K : wkP l Z B R hs w0 Q ws h k n pc' Ls (.int v :: st)) : wkP l Z B R hs w0 Q ws h k n pc Ls (.int x :: st) := by
  subst hp hv; exact .pure (fun p e s m args below meth c vm0 T locs hx hby X t q => XS.i2c X.here hx rfl (hb hby hd) rfl q) K
theorem wkP.i2l (pc' : Nat) {x : Int32} (v : Int64) (hd : decode B.2.1 pc = .ok (.i2l, 1)) (hv : x.toInt64 = v) (hp : pc + 1 = pc') (K : wkP l Z B R hs w0 Q ws h k n pc' Ls (.long v :: st)) : wkP l Z B R hs w0 Q ws h k n pc Ls (.int x :: st) := by
  subst hp hv; exact .pure (fun p e s m args below meth c vm0 T locs hx hby X t q => XS.i2l X.here hx rfl (hb hby hd) rfl q) K
theorem wkP.l2i (pc' : Nat) {x : Int64} (v : Int32) (hd : decode B.2.1 pc = .ok (.l2i, 1)) (hv : x.toInt32 = v) (hp : pc + 1 = pc') (K : wkP l Z B R hs w0 Q ws h k n pc' Ls (.int v :: st)) : wkP l Z B R hs w0 Q ws h k n pc Ls (.long x :: st) := by
  subst hp hv; exact .pure (fun p e s m args below meth c vm0 T locs hx hby X t q => XS.l2i X.here hx rfl (hb hby hd) rfl q) K
theorem wkP.lmul (pc' : Nat) {x y : Int64} (v : Int64) (hd : decode B.2.1 pc = .ok (.lmul, 1)) (hv : x * y = v) (hp : pc + 1 = pc') (K : wkP l Z B R hs w0 Q ws h k n pc' Ls (.long v :: st)) : wkP l Z B R hs w0 Q ws h k n pc Ls (.long y :: .long x :: st) := by
  subst hp hv; exact .pure (fun p e s m args below meth c vm0 T locs hx hby X t q => XS.lmul X.here hx rfl (hb hby hd) rfl q) K
theorem wkP.land (pc' : Nat) {x y : Int64} (v : Int64) (hd : decode B.2.1 pc = .ok (.land, 1)) (hv : x &&& y = v) (hp : pc + 1 = pc') (K : wkP l Z B R hs w0 Q ws h k n pc' Ls (.long v :: st)) : wkP l Z B R hs w0 Q ws h k n pc Ls (.long y :: .long x :: st) := by
  subst hp hv; exact .pure (fun p e s m args below meth c vm0 T locs hx hby X t q => XS.land X.here hx rfl (hb hby hd) rfl q) K
theorem wkP.lushr (pc' : Nat) {x : Int64} {y : Int32} (v : Int64) (hd : decode B.2.1 pc = .ok (.lushr, 1)) (hv : (x.toUInt64 >>> (y &&& 0x3f).toInt64.toUInt64).toInt64 = v) (hp : pc + 1 = pc') (K : wkP l Z B R hs w0 Q ws h k n pc' Ls (.long v :: st)) : wkP l Z B R hs w0 Q ws h k n pc Ls (.int y :: .long x :: st) := by
  subst hp hv; exact .pure (fun p e s m args below meth c vm0 T locs hx hby X t q => XS.lushr X.here hx rfl (hb hby hd) rfl q) K
theorem wkP.goto (pc' : Nat) {o : Int} (hd : decode B.2.1 pc = .ok (.goto o, 3)) (ho : 0 ≤ (pc : Int) + o) (hp : ((pc : Int) + o).toNat = pc') (K : wkP l Z B R hs w0 Q ws h k n pc' Ls st) : wkP l Z B R hs w0 Q ws h k n pc Ls st :=
  .pure (fun p e s m args below meth c vm0 T locs hx hby X t q => XS.goto X.here hx rfl (pc0 := pc) rfl (hb hby hd) ho hp q) K
/-- what a comparison's letters mean -/
abbrev wkC : ClassFile.Cond → Int32 → Int32 → Prop
  | .eq, x, y => x = y
  | .ne, x, y => ¬ x = y
  | .lt, x, y => x < y
  | .ge, x, y => ¬ x < y
  | .gt, x, y => y < x
  | .le, x, y => ¬ y < x
theorem wkC_t {cd : ClassFile.Cond} {x y : Int32} (q : wkC cd x y) : if_icmp.holds cd x y = true := by
  cases cd
  · exact (teq q).1
  · exact (feq q).2
  · exact (tlt q).1
  · exact (flt q).2.1
  · exact (tlt q).2.2.1
  · exact (flt q).2.2.2
theorem wkC_f {cd : ClassFile.Cond} {x y : Int32} (q : ¬ wkC cd x y) : if_icmp.holds cd x y = false := by
  cases cd
  · exact (feq q).1
  · exact (teq (Decidable.not_not.mp q)).2
  · exact (flt q).1
  · exact (tlt (Decidable.not_not.mp q)).2.1
  · exact (flt q).2.2.1
  · exact (tlt (Decidable.not_not.mp q)).2.2.2
theorem wkP.icmpT (pc' : Nat) {cd : ClassFile.Cond} {x y : Int32} {o : Int} (hd : decode B.2.1 pc = .ok (.if_icmp cd o, 3)) (q : wkC cd x y) (ho : 0 ≤ (pc : Int) + o) (hp : ((pc : Int) + o).toNat = pc') (K : wkP l Z B R hs w0 Q ws h k n pc' Ls st) : wkP l Z B R hs w0 Q ws h k n pc Ls (.int y :: .int x :: st) :=
  .pure (fun p e s m args below meth c vm0 T locs hx hby X t r => XS.icmpYes X.here hx rfl (pc0 := pc) rfl (hb hby hd) rfl (wkC_t q) ho hp r) K
theorem wkP.icmpF (pc' : Nat) {cd : ClassFile.Cond} {x y : Int32} {o : Int} (hd : decode B.2.1 pc = .ok (.if_icmp cd o, 3)) (q : ¬ wkC cd x y) (hp : pc + 3 = pc') (K : wkP l Z B R hs w0 Q ws h k n pc' Ls st) : wkP l Z B R hs w0 Q ws h k n pc Ls (.int y :: .int x :: st) := by
  subst hp; exact .pure (fun p e s m args below meth c vm0 T locs hx hby X t r => XS.icmpNo X.here hx rfl (hb hby hd) rfl (wkC_f q) r) K
theorem wkP.ifT (pc' : Nat) {cd : ClassFile.Cond} {x : Int32} {o : Int} (hd : decode B.2.1 pc = .ok (.ifCond cd o, 3)) (q : wkC cd x 0) (ho : 0 ≤ (pc : Int) + o) (hp : ((pc : Int) + o).toNat = pc') (K : wkP l Z B R hs w0 Q ws h k n pc' Ls st) : wkP l Z B R hs w0 Q ws h k n pc Ls (.int x :: st) :=
  .pure (fun p e s m args below meth c vm0 T locs hx hby X t r => XS.ifYes X.here hx rfl (pc0 := pc) rfl (hb hby hd) rfl ((if0 _ _).trans (wkC_t q)) ho hp r) K
theorem wkP.ifF (pc' : Nat) {cd : ClassFile.Cond} {x : Int32} {o : Int} (hd : decode B.2.1 pc = .ok (.ifCond cd o, 3)) (q : ¬ wkC cd x 0) (hp : pc + 3 = pc') (K : wkP l Z B R hs w0 Q ws h k n pc' Ls st) : wkP l Z B R hs w0 Q ws h k n pc Ls (.int x :: st) := by
  subst hp; exact .pure (fun p e s m args below meth c vm0 T locs hx hby X t r => XS.ifNo X.here hx rfl (hb hby hd) rfl ((if0 _ _).trans (wkC_f q)) r) K
theorem wkP.ifnullT (pc' : Nat) {o : Int} (hd : decode B.2.1 pc = .ok (.ifnull o, 3)) (ho : 0 ≤ (pc : Int) + o) (hp : ((pc : Int) + o).toNat = pc') (K : wkP l Z B R hs w0 Q ws h k n pc' Ls st) : wkP l Z B R hs w0 Q ws h k n pc Ls (.null :: st) :=
  .pure (fun p e s m args below meth c vm0 T locs hx hby X t r => XS.ifnullYes X.here hx rfl (pc0 := pc) rfl (hb hby hd) rfl ho hp r) K
theorem wkP.ifnullF (pc' : Nat) {o : Int} {a : Addr} (hd : decode B.2.1 pc = .ok (.ifnull o, 3)) (hp : pc + 3 = pc') (K : wkP l Z B R hs w0 Q ws h k n pc' Ls st) : wkP l Z B R hs w0 Q ws h k n pc Ls (.ref a :: st) := by
  subst hp; exact .pure (fun p e s m args below meth c vm0 T locs hx hby X t r => XS.ifnullNo X.here hx rfl (hb hby hd) rfl r) K
theorem wkP.ifnonnullT (pc' : Nat) {o : Int} {a : Addr} (hd : decode B.2.1 pc = .ok (.ifnonnull o, 3)) (ho : 0 ≤ (pc : Int) + o) (hp : ((pc : Int) + o).toNat = pc') (K : wkP l Z B R hs w0 Q ws h k n pc' Ls st) : wkP l Z B R hs w0 Q ws h k n pc Ls (.ref a :: st) :=
  .pure (fun p e s m args below meth c vm0 T locs hx hby X t r => XS.ifnonnullYes X.here hx rfl (pc0 := pc) rfl (hb hby hd) rfl ho hp r) K
theorem wkP.ifnonnullF (pc' : Nat) {o : Int} (hd : decode B.2.1 pc = .ok (.ifnonnull o, 3)) (hp : pc + 3 = pc') (K : wkP l Z B R hs w0 Q ws h k n pc' Ls st) : wkP l Z B R hs w0 Q ws h k n pc Ls (.null :: st) := by
  subst hp; exact .pure (fun p e s m args below meth c vm0 T locs hx hby X t r => XS.ifnonnullNo X.here hx rfl (hb hby hd) rfl r) K
theorem wkP.acmp (pc' : Nat) {cd : ACond} {x y : Value} {o : Int} (same : Bool) (hd : decode B.2.1 pc = .ok (.if_acmp cd o, 3)) (h1 : x.isRef = true) (h2 : y.isRef = true) (hq : decide (x = y) = same) (ho : 0 ≤ (pc : Int) + o) (hp : pc' = if acV cd same = true then ((pc : Int) + o).toNat else pc + 3) (K : wkP l Z B R hs w0 Q ws h k n pc' Ls st) : wkP l Z B R hs w0 Q ws h k n pc Ls (y :: x :: st) :=
  .pure (fun p e s m args below meth c vm0 T locs hx hby X t r => RoadKit.acmp X hx rfl h1 h2 (pc0 := pc) rfl (hb hby hd) rfl hq ho hp r) K
end Rules

section Facts
variable {Z : State} {h h' : Heap} {a b : Addr} {ty ty' : FieldType} {xs : List Int32} {ws : List Addr} {a0 : Array Value} {C D O n d : String} {v w : Value}
theorem nn0 {x : Nat} : x ∉ ([] : List Nat) := by simp
theorem nn1 {x y : Nat} (q : x ≠ y) : x ∉ [y] := by simpa using q
theorem nnS {x y : Nat} {L : List Nat} (q : x ≠ y) (r : x ∉ L) : x ∉ y :: L := by simpa using ⟨q, r⟩
/-- the array at a holds just these ints -/
def Ia (Z : State) (h : Heap) (a : Addr) (ty : FieldType) (xs : List Int32) : Prop := ∃ c : Cell, Arr Z h a c ty ∧ c.slots = (xs.map Value.int).toArray ∧ (∀ x ∈ xs, fits ty (.int x) = true) ∧ xs.length < 2 ^ 31
theorem exaLt (E : Exa Z h a C) : h.size > a := E.lt
theorem Ia.lt (F : Ia Z h a ty xs) : h.size > a := by obtain ⟨c, A, -⟩ := F; exact A.lt
theorem Ia.keep (F : Ia Z h a ty xs) (K : Keep h h' ws) (q : a ∉ ws) : Ia Z h' a ty xs := by
  obtain ⟨c, A, r⟩ := F; exact ⟨c, ⟨K.2.1 _ _ A.1 q, A.2⟩, r⟩
theorem Ia.len (F : Ia Z h a ty xs) : xs.length < 2 ^ 31 := by obtain ⟨c, -, -, -, r⟩ := F; exact r
theorem Ia.fit (F : Ia Z h a ty xs) : ∀ x ∈ xs, fits ty (.int x) = true := by obtain ⟨c, -, -, r, -⟩ := F; exact r
theorem Ia.of_arv {k : ClassId} {z : Int32} {vs : List Value} (F : Arv Z h a k ty z vs v) (e : vs = xs.map Value.int) (hl : z.toNatClampNeg = vs.length) : Ia Z h a ty xs := by
  obtain ⟨c, A, -, hs, hz, H, G⟩ := F
  subst e
  have hsz : c.slots.size = xs.length := by rw [hs, hl]; simp
  have hb := (back32 hz).2
  refine ⟨c, A, ?_, fun x hx => ?_, by rw [← hsz, hs]; exact hb⟩
  · refine Array.ext (by simpa using hsz) fun i h1 h2 => ?_
    have q := H i h1
    rw [Array.getElem?_eq_getElem h1] at q
    have h3 : i < xs.length := by omega
    simp [List.getD_eq_getElem?_getD, h3] at q ⊢
    exact q
  · obtain ⟨i, hi, rfl⟩ := List.getElem_of_mem hx
    have q := G i (by omega)
    simpa [List.getD_eq_getElem?_getD, hi] using q
theorem Ia.arv (F : Ia Z h a ty xs) : ∃ k, Arv Z h a k ty (Int32.ofNat xs.length) (xs.map Value.int) (.int 0) := by
  obtain ⟨c, A, e, f, r⟩ := F
  have q : (Int32.ofNat xs.length).toNatClampNeg = xs.length := clamp_of rfl r
  have sz : c.slots.size = xs.length := by rw [e]; simp
  refine ⟨c.cls, c, A, rfl, by rw [q, sz], ?_, fun i hi => ?_, fun i hi => ?_⟩
  · have := toInt_of (n := Int32.ofNat xs.length) rfl r
    rw [Int32.lt_iff_toInt_lt, this]; simp
  · rw [e]; simp [List.getD_eq_getElem?_getD, show i < xs.length by omega]
  · have h3 : i < xs.length := by omega
    simpa [List.getD_eq_getElem?_getD, h3] using f _ (List.getElem_mem h3)
theorem Ia.ne (F : Ia Z h a ty xs) {ys : List Int32} (G : Ia Z h b ty' ys) (q : ty ≠ ty') : a ≠ b := fun e => by
  subst e
  obtain ⟨c, A, -⟩ := F
  obtain ⟨c', A', -⟩ := G
  cases A.1.symm.trans A'.1
  obtain ⟨-, k1, q1, c1, r1⟩ := A.2.1
  obtain ⟨-, k2, q2, c2, r2⟩ := A'.2.1
  cases q1.symm.trans q2
  rw [r1] at r2
  injection r2 with _ r3
  exact q r3
theorem exaNeIa {kk : Nat} (E : Exa Z h a C) (wi : (Cond.instantiable C kk).before a0 Z = true) (G : Ia Z h b ty xs) : a ≠ b := by
  obtain ⟨c, A, -⟩ := G
  exact ne_arr E wi A
end Facts
section Rules2
variable {l : Launch} {Z : State} {B : wkB} {R : Room} {hs : Heap} {w0 : List Addr} {Q : Option Value → Heap → List Addr → Prop} {ws : List Addr} {h : Heap} {k n pc : Nat} {Ls : Array Slot} {st : List Value} {a0 : Array Value}
variable {p : Program} {e : Env} {s : State} {m : MethodId} {args : Array Value} {below : List Frame} {meth : Method} {c : Code} {vm0 : Vm} {k0 : Nat} {T T' : State} {locs : List Loc} {h' : Heap} {k' n' : Nat} {a : Addr} {sl : Nat} {v : Value}
theorem keepExt {hh h1 : Heap} (E : Ext hh h1) : Keep hh h1 [] := (Keep.refl _ _).ext E
theorem wkAt.same (A : wkAt p l e R s m args below meth c Z B hs w0 ws h k n vm0 k0 T locs) (X' : Stand p l e R (s.setVm vm0) m args below meth c T' locs k n) (e' : T'.heap = h) : wkAt p l e R s m args below meth c Z B hs w0 ws h k n vm0 k0 T' locs :=
  ⟨A.1, X', e', A.2.2.2⟩
theorem wkAt.ext (A : wkAt p l e R s m args below meth c Z B hs w0 ws h k n vm0 k0 T locs) (X' : Stand p l e R (s.setVm vm0) m args below meth c T' locs k' n') (e' : T'.heap = h') (E : Ext h h') : wkAt p l e R s m args below meth c Z B hs w0 ws h' k' n' vm0 k0 T' locs := by
  obtain ⟨a1, -, -, ⟨a4, a5⟩, a6, a7, a8, a9, a10, a11, a12⟩ := A
  exact ⟨a1, X', e', ⟨a4, Nat.le_trans a5 E.1⟩, a6, a7, a8.trans (CHr.ext E a8.1), a9, a10.ext E, a11.ext E, fun x hx => ⟨(a12 x hx).1, Nat.lt_of_lt_of_le (a12 x hx).2.1 E.1, Safe.ext E a8.1 (a12 x hx).2.2.1, (a12 x hx).2.2.2⟩⟩
theorem wkAt.push (A : wkAt p l e R s m args below meth c Z B hs w0 ws h k n vm0 k0 T locs) (X' : Stand p l e R (s.setVm vm0) m args below meth c T' locs k' n') (e' : T'.heap = h') (E : Ext h h') (ha : h.size ≤ a) (hb : a < h'.size) : wkAt p l e R s m args below meth c Z B hs w0 (a :: ws) h' k' n' vm0 k0 T' locs := by
  have q := A.ext X' e' E
  obtain ⟨a1, -, -, ⟨a4, a5⟩, a6, a7, a8, a9, a10, a11, a12⟩ := A
  obtain ⟨b1, b2, b3, b4, b5, b6, b7, b8, b9, b10, b11⟩ := q
  refine ⟨b1, b2, b3, b4, b5, b6, b7, b8, b9, b10, fun x hx => ?_⟩
  rcases List.mem_cons.mp hx with rfl | hx
  · exact ⟨Nat.le_trans a10.2.1 ha, hb, Safe.ext E a8.1 (Safe.new ha), Or.inr (Nat.le_trans a11.1 ha)⟩
  · exact b11 x hx
theorem wkAt.wr (A : wkAt p l e R s m args below meth c Z B hs w0 ws h k n vm0 k0 T locs) (X' : Stand p l e R (s.setVm vm0) m args below meth c T' (locs ++ [⟨a, sl⟩]) k n) (e' : T'.heap = h') (W : Wr h h' a sl v) (ha : a ∈ ws) : wkAt p l e R s m args below meth c Z B hs w0 ws h' k n vm0 k0 T' (locs ++ [⟨a, sl⟩]) := by
  obtain ⟨a1, -, -, ⟨a4, a5⟩, a6, a7, a8, a9, a10, a11, a12⟩ := A
  obtain ⟨s1, s2, s3, s4⟩ := a12 a ha
  have hsz := W.size
  exact ⟨a1, X', e', ⟨a4, by rw [hsz]; exact a5⟩, a6, a7, a8.trans (CHr.wr W s3 a8.1), Fr.app a9 (fun y hy => by simp at hy; rw [hy]; exact s1), a10.wr W s1, a11.wr W s4, fun x hx => ⟨(a12 x hx).1, by rw [hsz]; exact (a12 x hx).2.1, Safe.wr W s3 a8.1 (a12 x hx).2.2.1, (a12 x hx).2.2.2⟩⟩
theorem wkP.more {k1 n1 : Nat} (hk : k ≤ k1) (hn : n ≤ n1) (K : wkP l Z B R hs w0 Q ws h k1 n1 pc Ls st) : wkP l Z B R hs w0 Q ws h k n pc Ls st := by
  intro p e s m args below meth c vm0 k0 T locs A
  exact K p e s m args below meth c vm0 k0 T locs ⟨A.1, A.2.1.more hk hn, A.2.2⟩
theorem wkP.sub {ws1 : List Addr} (q : ∀ x ∈ ws1, x ∈ ws) (K : wkP l Z B R hs w0 Q ws1 h k n pc Ls st) : wkP l Z B R hs w0 Q ws h k n pc Ls st := by
  intro p e s m args below meth c vm0 k0 T locs A
  obtain ⟨b1, b2, b3, b4, b5, b6, b7, b8, b9, b10, b11⟩ := A
  exact K p e s m args below meth c vm0 k0 T locs ⟨b1, b2, b3, b4, b5, b6, b7, b8, b9, b10, fun x hx => b11 x (q x hx)⟩
/-- what is known wherever a walk stands -/
theorem wkP.know (K : (∀ x ∈ ws, Z.heap.size ≤ x ∧ x < h.size) → Z.heap.size ≤ h.size → Keep hs h w0 → wkP l Z B R hs w0 Q ws h k n pc Ls st) : wkP l Z B R hs w0 Q ws h k n pc Ls st := by
  intro p e s m args below meth c vm0 k0 T locs A
  obtain ⟨b1, b2, b3, b4, b5, b6, b7, b8, b9, b10, b11⟩ := A
  exact K (fun x hx => ⟨(b11 x hx).1, (b11 x hx).2.1⟩) b9.2.1 b10 p e s m args below meth c vm0 k0 T locs ⟨b1, b2, b3, b4, b5, b6, b7, b8, b9, b10, b11⟩
theorem wkP.getF (pc' : Nat) {index : Nat} {R0 O nm d : String} (w : (Cond.fieldLink B.1.cls index R0 nm d).before a0 Z = true) (F : Fld Z h a O nm d v) (via : Via Z R0 O nm d) (hd : decode B.2.1 pc = .ok (.getfield index, 3)) (hp : pc + 3 = pc') (K : wkP l Z B R hs w0 Q ws h k n pc' Ls (v :: st)) : wkP l Z B R hs w0 Q ws h k n pc Ls (.ref a :: st) := by
  subst hp
  intro p e s m args below meth c vm0 k0 T locs A
  obtain ⟨T', X', e', stp⟩ := RoadKit.getF A.2.1 A.1.1 A.2.2.2.2.1 A.2.2.2.2.2.1 (host := "") (Or.inl w) via A.2.2.1 F (g := mkF m pc Ls (.ref a :: st)) rfl rfl (hb A.1.2.1 hd)
  obtain ⟨U, o, q, r⟩ := K p e s m args below meth c vm0 k0 T' locs (A.same X' e')
  exact ⟨U, o, stp _ q, r⟩
theorem wkP.getS (pc' : Nat) {index : Nat} {R0 O nm d : String} (w : (Cond.fieldLink B.1.cls index R0 nm d).before a0 Z = true) (F : Sta Z Z.heap O nm d v) (via : Via Z R0 O nm d) (hd : decode B.2.1 pc = .ok (.getstatic index, 3)) (hp : pc + 3 = pc') (K : wkP l Z B R hs w0 Q ws h k n pc' Ls (v :: st)) : wkP l Z B R hs w0 Q ws h k n pc Ls st := by
  subst hp
  intro p e s m args below meth c vm0 k0 T locs A
  obtain ⟨T', X', e', stp⟩ := RoadKit.getS A.2.1 A.1.1 A.2.2.2.2.1 A.2.2.2.2.2.1 (host := "") w via A.2.2.1 (F.ext A.2.2.2.2.2.2.2.2.1.2) (g := mkF m pc Ls st) rfl (hb A.1.2.1 hd)
  obtain ⟨U, o, q, r⟩ := K p e s m args below meth c vm0 k0 T' locs (A.same X' e')
  exact ⟨U, o, stp _ q, r⟩
theorem wkP.castY (pc' : Nat) {index : Nat} {C : String} (w : (Cond.classLink B.1.cls index C).before a0 Z = true) (F : Ins Z h a C true) (hd : decode B.2.1 pc = .ok (.checkcast index, 3)) (hp : pc + 3 = pc') (K : wkP l Z B R hs w0 Q ws h k n pc' Ls (.ref a :: st)) : wkP l Z B R hs w0 Q ws h k n pc Ls (.ref a :: st) := by
  subst hp
  intro p e s m args below meth c vm0 k0 T locs A
  obtain ⟨T', X', e', stp⟩ := RoadKit.castY A.2.1 A.1.1 A.2.2.2.2.1 A.2.2.2.2.2.1 w A.2.2.1 F (g := mkF m pc Ls (.ref a :: st)) rfl rfl (hb A.1.2.1 hd)
  obtain ⟨U, o, q, r⟩ := K p e s m args below meth c vm0 k0 T' locs (A.same X' e')
  exact ⟨U, o, stp _ q, r⟩
theorem wkP.instY (pc' : Nat) {index : Nat} {C : String} (w : (Cond.classLink B.1.cls index C).before a0 Z = true) (F : Ins Z h a C true) (hd : decode B.2.1 pc = .ok (.instanceof index, 3)) (hp : pc + 3 = pc') (K : wkP l Z B R hs w0 Q ws h k n pc' Ls (.int 1 :: st)) : wkP l Z B R hs w0 Q ws h k n pc Ls (.ref a :: st) := by
  subst hp
  intro p e s m args below meth c vm0 k0 T locs A
  obtain ⟨T', X', e', stp⟩ := RoadKit.instY A.2.1 A.1.1 A.2.2.2.2.1 A.2.2.2.2.2.1 w A.2.2.1 F (g := mkF m pc Ls (.ref a :: st)) rfl rfl (hb A.1.2.1 hd)
  obtain ⟨U, o, q, r⟩ := K p e s m args below meth c vm0 k0 T' locs (A.same X' e')
  exact ⟨U, o, stp _ q, r⟩
theorem wkP.ldcI (pc' : Nat) {index : Nat} {v : Int32} (w : (Cond.constant B.1.cls index v).before a0 Z = true) (hd : decode B.2.1 pc = .ok (.ldc index, 2)) (hp : pc + 2 = pc') (K : wkP l Z B R hs w0 Q ws h k n pc' Ls (.int v :: st)) : wkP l Z B R hs w0 Q ws h k n pc Ls st := by
  subst hp
  intro p e s m args below meth c vm0 k0 T locs A
  obtain ⟨U, o, q, r⟩ := K p e s m args below meth c vm0 k0 T locs A
  exact ⟨U, o, A.2.1.ldcInt A.1.1 (own := B.1.cls) A.2.2.2.2.2.1 (mvT (s := s.setVm vm0) A.2.2.2.2.1 w) (g := mkF m pc Ls st) rfl (hb A.1.2.1 hd) _ q, r⟩
theorem wkP.ldcL (pc' : Nat) {index : Nat} {v : Int64} (w : (Cond.constantLong B.1.cls index v).before a0 Z = true) (hd : decode B.2.1 pc = .ok (.ldc2_w index, 3)) (hp : pc + 3 = pc') (K : wkP l Z B R hs w0 Q ws h k n pc' Ls (.long v :: st)) : wkP l Z B R hs w0 Q ws h k n pc Ls st := by
  subst hp
  intro p e s m args below meth c vm0 k0 T locs A
  obtain ⟨U, o, q, r⟩ := K p e s m args below meth c vm0 k0 T locs A
  exact ⟨U, o, A.2.1.ldc2Long A.1.1 (own := B.1.cls) A.2.2.2.2.2.1 (mvT (s := s.setVm vm0) A.2.2.2.2.1 w) (g := mkF m pc Ls st) rfl (hb A.1.2.1 hd) _ q, r⟩
theorem wkP.instNull (pc' : Nat) {index : Nat} (hd : decode B.2.1 pc = .ok (.instanceof index, 3)) (hp : pc + 3 = pc') (K : wkP l Z B R hs w0 Q ws h k n pc' Ls (.int 0 :: st)) : wkP l Z B R hs w0 Q ws h k n pc Ls (.null :: st) := by
  subst hp; exact .pure (fun p e s m args below meth c vm0 T locs hx hby X t q => X.instanceofNull hx (g := mkF m pc Ls (.null :: st)) rfl rfl (hb hby hd) t q) K
theorem wkP.instNo (pc' : Nat) {index : Nat} {C D : String} (w : (Cond.classLink B.1.cls index C).before a0 Z = true) (E : Exa Z h a D) (F : ∃ c t, Z.vm.findClass D = some c ∧ Z.vm.findClass C = some t ∧ Z.vm.assignable c t = false) (hd : decode B.2.1 pc = .ok (.instanceof index, 3)) (hp : pc + 3 = pc') (K : wkP l Z B R hs w0 Q ws h k n pc' Ls (.int 0 :: st)) : wkP l Z B R hs w0 Q ws h k n pc Ls (.ref a :: st) := by
  subst hp
  intro p e s m args below meth c vm0 k0 T locs A
  obtain ⟨T', X', e', stp⟩ := RoadKit.instNo A.2.1 A.1.1 A.2.2.2.2.1 A.2.2.2.2.2.1 w A.2.2.1 E F (g := mkF m pc Ls (.ref a :: st)) rfl rfl (hb A.1.2.1 hd)
  obtain ⟨U, o, q, r⟩ := K p e s m args below meth c vm0 k0 T' locs (A.same X' e')
  exact ⟨U, o, stp _ q, r⟩
/-- String's one superclass is Object: it is no class that is neither -/
theorem notOf {K : String} {kk : Nat} (w1 : (Cond.superclass "java/lang/String" "java/lang/Object").before a0 Z = true) (w2 : (Cond.noSuperclass "java/lang/Object").before a0 Z = true) (w3 : (Cond.instantiable K kk).before a0 Z = true) (n1 : "java/lang/String" ≠ K) (n2 : "java/lang/Object" ≠ K) : ∃ c t, Z.vm.findClass "java/lang/String" = some c ∧ Z.vm.findClass K = some t ∧ Z.vm.assignable c t = false := by
  obtain ⟨t, kt, g0, g2, g3, g4, -⟩ := Cond.instantiable_spec w3
  obtain ⟨c, h0⟩ := found_sup w1
  obtain ⟨p, k, kp, h1, h2, h3, h4, h5, -, h7⟩ := Cond.superclass_spec h0 w1
  obtain ⟨q, kq, q1, q2, q3, -, -⟩ := Cond.noSuperclass_spec w2
  have e1 := h1.symm.trans q1
  cases e1
  have ne1 := ids_ne h0 g0 n1
  have ne2 := ids_ne h1 g0 n2
  have hi : kt.isInterface = false := by
    cases hq : kt.isInterface
    · rfl
    · rw [hq] at g4; simp at g4
  have ns : ∀ fuel, Z.vm.isSubclassAux fuel c t = false := fun fuel => by
    cases fuel with
    | zero => rfl
    | succ f =>
      cases f with
      | zero => simp [Vm.isSubclassAux, ne1, h2, h4]
      | succ f => simp [Vm.isSubclassAux, ne1, ne2, h2, h4, q2, q3]
  refine ⟨c, t, h0, g0, ?_⟩
  show Z.vm.assignableAux (255 + 1) c t = false
  simp [Vm.assignableAux, ne1, h2, g2, h5, g3, hi, Vm.isSubclass, ns]
theorem wkP.newO (pc' : Nat) {index nn : Nat} {C : String} (w : (Cond.classLink B.1.cls index C).before a0 Z = true) (wi : (Cond.instantiable C nn).before a0 Z = true) (wz : (Cond.initialized C).before a0 Z = true) (hd : decode B.2.1 pc = .ok (.new index, 3)) (hc : k + 1 ≤ R.cells) (hl : n + nn ≤ R.slots) (hp : pc + 3 = pc')
    (K : ∀ (h' : Heap) (a : Addr), h.size ≤ a → h'.size > a → Keep h h' [] → Exa Z h' a C → (∀ {O nm d : String} {ty : FieldType}, Laid Z a0 C O nm d → parseFieldDescriptor d = some ty → Fld Z h' a O nm d (defaultValue ty)) → Unt h' a → wkP l Z B R hs w0 Q (a :: ws) h' (k + 1) (n + nn) pc' Ls (.ref a :: st)) : wkP l Z B R hs w0 Q ws h k n pc Ls st := by
  subst hp
  intro p e s m args below meth c vm0 k0 T locs A
  obtain ⟨T', h', X', e', E', A', D', N', stp⟩ := RoadKit.newO A.2.1 A.1.1 A.2.2.2.2.1 A.2.2.2.2.2.1 w wi wz A.2.2.1 (g := mkF m pc Ls st) rfl (hb A.1.2.1 hd) hc hl
  obtain ⟨U, o, q, r⟩ := K h' h.size (Nat.le_refl _) A'.lt (keepExt E') A' (fun L q => D' L q) N' p e s m args below meth c vm0 k0 T' locs (A.push X' e' E' (Nat.le_refl _) A'.lt)
  exact ⟨U, o, stp _ q, r⟩
theorem nat_of_toInt {z : Int32} {N : Nat} (hz : z.toInt = (N : Int)) : ¬ z < 0 ∧ z.toNatClampNeg = N := by
  constructor
  · rw [Int32.lt_iff_toInt_lt, hz]; simp
  · simp [Int32.toNatClampNeg, hz]
theorem wkP.newP (pc' : Nat) {aty : ArrayType} (ty : FieldType) (N cap : Nat) {z : Int32} (w : (Cond.arrayClass ty).before a0 Z = true) (hty : newarray.typeOf aty = ty) (hdv : defaultValue ty = .int 0) (hf : fits ty (.int 0) = true) (hd : decode B.2.1 pc = .ok (.newarray aty, 2)) (hz : z.toInt = (N : Int)) (hcap : N ≤ cap) (hb8 : cap * 8 ≤ 536870912) (hc : k + 1 ≤ R.cells) (hl : n + cap ≤ R.slots) (hp : pc + 2 = pc')
    (K : ∀ (h' : Heap) (a : Addr), h.size ≤ a → h'.size > a → Keep h h' [] → Ia Z h' a ty (List.replicate N 0) → wkP l Z B R hs w0 Q (a :: ws) h' (k + 1) (n + cap) pc' Ls (.ref a :: st)) : wkP l Z B R hs w0 Q ws h k n pc Ls (.int z :: st) := by
  subst hp hty
  obtain ⟨z1, z2⟩ := nat_of_toInt hz
  intro p e s m args below meth c vm0 k0 T locs A
  obtain ⟨T', h', cA, X', e', E', A', stp⟩ := RoadKit.newP A.2.1 A.1.1 A.2.2.2.2.1 w A.2.2.1 (g := mkF m pc Ls (.int z :: st)) rfl (hb A.1.2.1 hd) rfl z1 (cap := cap) (by omega) hb8 hc hl
  have F : Ia Z h' h.size (newarray.typeOf aty) (List.replicate N 0) := ⟨_, A', by simp [newA, z2, hdv], fun x hx => by rw [List.eq_of_mem_replicate hx]; exact hf, by simp; omega⟩
  obtain ⟨U, o, q, r⟩ := K h' h.size (Nat.le_refl _) A'.lt (keepExt E') F p e s m args below meth c vm0 k0 T' locs (A.push X' e' E' (Nat.le_refl _) A'.lt)
  exact ⟨U, o, stp _ q, r⟩
theorem wkP.putF (pc' : Nat) {index kk : Nat} {O nm d C : String} {ty : FieldType} {old : Value} (w : (Cond.fieldLink B.1.cls index O nm d).before a0 Z = true) (F : Fld Z h a O nm d old) (E : Exa Z h a C) (L : (Cond.lays C O nm d).before a0 Z = true ∨ ((Cond.laysFinal C O nm d).before a0 Z = true ∧ B.1.cls = O ∧ B.1.name = "<init>")) (wi : (Cond.instantiable C kk).before a0 Z = true)
    (hty : parseFieldDescriptor d = some ty) (hn : narrow ty v = v) (hf : fits ty v = true) (hd : decode B.2.1 pc = .ok (.putfield index, 3)) (ha : a ∈ ws) (hp : pc + 3 = pc')
    (K : ∀ h' : Heap, Keep h h' [a] → Wr h h' a (RoadKit.slotOf Z O nm d) v → wkP l Z B R hs w0 Q ws h' k n pc' Ls st) : wkP l Z B R hs w0 Q ws h k n pc Ls (v :: .ref a :: st) := by
  subst hp
  intro p e s m args below meth c vm0 k0 T locs A
  obtain ⟨T', h', X', e', W', stp⟩ := RoadKit.putF A.2.1 A.1.1 A.2.2.2.2.1 A.2.2.2.2.2.1 (host := "") (Or.inl w) Via.refl A.2.2.1 F E (L.imp id fun q => ⟨q.1, q.2.1, A.1.2.2.2.2.2.trans q.2.2⟩) wi hty hn hf (g := mkF m pc Ls (v :: .ref a :: st)) rfl rfl (hb A.1.2.1 hd)
  obtain ⟨U, o, q, r⟩ := K h' (Keep.of_wr W') W' p e s m args below meth c vm0 k0 T' _ (A.wr X' e' W' ha)
  exact ⟨U, o, stp _ q, r⟩
theorem Ia.set {xs : List Int32} {ty : FieldType} {i : Nat} {x : Int32} (F : Ia Z h a ty xs) (W : Wr h h' a i (.int x)) (hx : fits ty (.int x) = true) : Ia Z h' a ty (xs.set i x) := by
  obtain ⟨c, A, e1, f, r⟩ := F
  refine ⟨_, A.same W, by simp [Cell.setSlot, e1], fun y hy => ?_, by simpa using r⟩
  rcases List.mem_or_eq_of_mem_set hy with q | q
  · exact f y q
  · rw [q]; exact hx
theorem in_of {xs : List Int32} {c : Cell} {j : Int32} {i : Nat} (e1 : c.slots = (xs.map Value.int).toArray) (hj : j.toInt = (i : Int)) (hi : i < xs.length) : ¬ (j < 0 ∨ c.slots.size ≤ j.toNatClampNeg) := by
  obtain ⟨z1, z2⟩ := nat_of_toInt hj
  rw [e1, z2]; simp [z1]; omega
theorem wkP.stC (pc' i : Nat) {xs : List Int32} {j x : Int32} (x' : Int32) (F : Ia Z h a .char xs) (hd : decode B.2.1 pc = .ok (.castore, 1)) (hj : j.toInt = (i : Int)) (hi : i < xs.length) (hx' : nar .char x = x') (ha : a ∈ ws) (hp : pc + 1 = pc')
    (K : ∀ h' : Heap, Keep h h' [a] → Ia Z h' a .char (xs.set i x') → wkP l Z B R hs w0 Q ws h' k n pc' Ls st) : wkP l Z B R hs w0 Q ws h k n pc Ls (.int x :: .int j :: .ref a :: st) := by
  subst hp hx'
  intro p e s m args below meth c vm0 k0 T locs A
  have F0 := F
  obtain ⟨cl, Ar, e1, f, r⟩ := F
  obtain ⟨T', h', X', e', W', stp⟩ := RoadKit.stC A.2.1 A.1.1 A.2.2.2.2.1 A.2.2.1 Ar (j := j) (in_of e1 hj hi) (g := mkF m pc Ls (.int x :: .int j :: .ref a :: st)) rfl rfl (hb A.1.2.1 hd)
  rw [(nat_of_toInt hj).2] at W' X'
  obtain ⟨U, o, q, r⟩ := K h' (Keep.of_wr W') (F0.set W' (fits_nar_char x)) p e s m args below meth c vm0 k0 T' _ (A.wr X' e' W' ha)
  exact ⟨U, o, stp _ q, r⟩
theorem wkP.stB (pc' i : Nat) {xs : List Int32} {j x : Int32} (x' : Int32) (F : Ia Z h a .byte xs) (hd : decode B.2.1 pc = .ok (.bastore, 1)) (hj : j.toInt = (i : Int)) (hi : i < xs.length) (hx' : nar .byte x = x') (ha : a ∈ ws) (hp : pc + 1 = pc')
    (K : ∀ h' : Heap, Keep h h' [a] → Ia Z h' a .byte (xs.set i x') → wkP l Z B R hs w0 Q ws h' k n pc' Ls st) : wkP l Z B R hs w0 Q ws h k n pc Ls (.int x :: .int j :: .ref a :: st) := by
  subst hp hx'
  intro p e s m args below meth c vm0 k0 T locs A
  have F0 := F
  obtain ⟨cl, Ar, e1, f, r⟩ := F
  obtain ⟨T', h', X', e', W', stp⟩ := RoadKit.stB A.2.1 A.1.1 A.2.2.2.2.1 A.2.2.1 Ar (j := j) (in_of e1 hj hi) (g := mkF m pc Ls (.int x :: .int j :: .ref a :: st)) rfl rfl (hb A.1.2.1 hd)
  rw [(nat_of_toInt hj).2] at W' X'
  obtain ⟨U, o, q, r⟩ := K h' (Keep.of_wr W') (F0.set W' (fits_nar_byte x)) p e s m args below meth c vm0 k0 T' _ (A.wr X' e' W' ha)
  exact ⟨U, o, stp _ q, r⟩
theorem Ia.at {xs : List Int32} {c : Cell} {i : Nat} {x j : Int32} (e1 : c.slots = (xs.map Value.int).toArray) (hj : j.toInt = (i : Int)) (hx : xs[i]? = some x) : c.slots[j.toNatClampNeg]? = some (.int x) := by
  rw [(nat_of_toInt hj).2, e1]; simp [hx]
theorem wkP.caload (pc' i : Nat) {xs : List Int32} {j : Int32} (x : Int32) (F : Ia Z h a .char xs) (hd : decode B.2.1 pc = .ok (.caload, 1)) (hj : j.toInt = (i : Int)) (hx : xs[i]? = some x) (hp : pc + 1 = pc') (K : wkP l Z B R hs w0 Q ws h k n pc' Ls (.int x :: st)) : wkP l Z B R hs w0 Q ws h k n pc Ls (.int j :: .ref a :: st) := by
  subst hp
  intro p e s m args below meth c vm0 k0 T locs A
  obtain ⟨cl, Ar, e1, f, r⟩ := F
  have hi : i < xs.length := (List.getElem?_eq_some_iff.mp hx).1
  obtain ⟨U, o, q, r⟩ := K p e s m args below meth c vm0 k0 T locs A
  exact ⟨U, o, A.2.1.caload A.1.1 (by rw [A.2.2.1]; exact Ar.1) (State.isArrayOf_alike (T := s.setVm vm0) A.2.2.2.2.1.alike Ar.2.1) Ar.2.2 (in_of e1 hj hi) (Ia.at e1 hj hx) (g := mkF m pc Ls (.int j :: .ref a :: st)) rfl rfl (hb A.1.2.1 hd) _ q, r⟩
theorem wkP.baload (pc' i : Nat) {xs : List Int32} {j : Int32} (x : Int32) (F : Ia Z h a .byte xs) (hd : decode B.2.1 pc = .ok (.baload, 1)) (hj : j.toInt = (i : Int)) (hx : xs[i]? = some x) (hp : pc + 1 = pc') (K : wkP l Z B R hs w0 Q ws h k n pc' Ls (.int x :: st)) : wkP l Z B R hs w0 Q ws h k n pc Ls (.int j :: .ref a :: st) := by
  subst hp
  intro p e s m args below meth c vm0 k0 T locs A
  obtain ⟨cl, Ar, e1, f, r⟩ := F
  have hi : i < xs.length := (List.getElem?_eq_some_iff.mp hx).1
  obtain ⟨U, o, q, r⟩ := K p e s m args below meth c vm0 k0 T locs A
  exact ⟨U, o, A.2.1.baloadBytes A.1.1 (by rw [A.2.2.1]; exact Ar.1) (State.isArrayOf_alike (T := s.setVm vm0) A.2.2.2.2.1.alike Ar.2.1) Ar.2.2 (in_of e1 hj hi) (Ia.at e1 hj hx) (g := mkF m pc Ls (.int j :: .ref a :: st)) rfl rfl (hb A.1.2.1 hd) _ q, r⟩
theorem wkP.alen (pc' : Nat) {xs : List Int32} {ty : FieldType} (z : Int32) (F : Ia Z h a ty xs) (hd : decode B.2.1 pc = .ok (.arraylength, 1)) (hz : Int32.ofNat xs.length = z) (hp : pc + 1 = pc') (K : wkP l Z B R hs w0 Q ws h k n pc' Ls (.int z :: st)) : wkP l Z B R hs w0 Q ws h k n pc Ls (.ref a :: st) := by
  subst hp hz
  intro p e s m args below meth c vm0 k0 T locs A
  obtain ⟨cl, Ar, e1, f, r⟩ := F
  obtain ⟨U, o, q, r⟩ := K p e s m args below meth c vm0 k0 T locs A
  refine ⟨U, o, A.2.1.arraylength A.1.1 (by rw [A.2.2.1]; exact Ar.1) (State.isArrayOf_alike (T := s.setVm vm0) A.2.2.2.2.1.alike Ar.2.1) (g := mkF m pc Ls (.ref a :: st)) rfl rfl (hb A.1.2.1 hd) _ ?_, r⟩
  have sz : cl.slots.size = xs.length := by rw [e1]; simp
  rw [sz]; exact q
theorem wkP.initO (pc' : Nat) {index : Nat} (w1 : (Cond.methodLink B.1.cls index Lib.objectInit).before a0 Z = true) (w2 : (Cond.instanceMethod Lib.objectInit).before a0 Z = true) (w3 : (Cond.code Lib.objectInit ⟨#[0xb1]⟩ 1 none).before a0 Z = true) (hd : decode B.2.1 pc = .ok (.invokespecial index, 3)) (hsz : Ls.size = B.2.2.1)
    (hf : 1 ≤ R.frames) (W : Nat) (hW : 2 * 0 + (st.map fun v => v.category).sum ≤ W) (hl : W + 12 ≤ R.locals) (hp : pc + 3 = pc') (K : wkP l Z B R hs w0 Q ws h k n pc' Ls st) : wkP l Z B R hs w0 Q ws h k n pc Ls (.ref a :: st) := by
  subst hp
  intro p e s m args below meth c vm0 k0 T locs A
  obtain ⟨T', X', e', stp⟩ := RoadKit.initO A.2.1 A.1.1 A.2.2.2.2.1 A.2.2.2.2.2.1 w1 w2 w3 A.2.2.1 (g := mkF m pc Ls (.ref a :: st)) rfl (hsz.trans A.1.2.2.1.symm) rfl (hb A.1.2.1 hd) hf hW hl
  obtain ⟨U, o, q, r⟩ := K p e s m args below meth c vm0 k0 T' locs (A.same X' e')
  exact ⟨U, o, stp _ q, r⟩
theorem wkP.ldc (pc' : Nat) {index : Nat} {text : String} (xs : List Int32) (N : Nat) (w : (Cond.stringLink B.1.cls index text).before a0 Z = true) (wS : ∀ a ∈ Bundle.stringAtoms, a.before a0 Z = true) (hE : EW Z a0 EL) (hmem : (B.1.cls, index) ∈ EL)
    (ht : (∀ c ∈ text.toList, c.toNat < 256) ∧ text.toList.map (fun c => Value.int (Jvm.Lit.byteI c.toNat.toUInt16)) = xs.map Value.int) (hl : text.toList.length = xs.length) (hxl : xs.length < 100000) (hd : decode B.2.1 pc = .ok (.ldc index, 2)) (hn : 4 * text.toList.length ≤ N) (hN : N ≤ 536870912) (hc : k + 2 ≤ R.cells) (hsl : n + (N + 4) ≤ R.slots) (hp : pc + 2 = pc')
    (K : ∀ (h' : Heap) (a b : Addr), Keep h h' [] → Exa Z h' a "java/lang/String" → Fld Z h' a "java/lang/String" "coder" "B" (.int 0) → Fld Z h' a "java/lang/String" "value" "[B" (.ref b) → Ia Z h' b .byte xs → (∀ x ∈ ws, x ≠ a ∧ x ≠ b) → wkP l Z B R hs w0 Q ws h' (k + 2) (n + (N + 4)) pc' Ls (.ref a :: st)) : wkP l Z B R hs w0 Q ws h k n pc Ls st := by
  subst hp
  intro p e s m args below meth c vm0 k0 T locs A
  have hz : (Int32.ofNat xs.length).toInt = (xs.length : Int) := toInt_of rfl (by omega)
  obtain ⟨z1, z2⟩ := nat_of_toInt hz
  obtain ⟨a1, a2, a3, ⟨a4, a5⟩, a6, a7, a8, a9, a10, a11, a12⟩ := A
  obtain ⟨a, T', h', k1, b, kb, X', e', E', S', k1', W', O', q1, q2, q3, q4, q5, q6, C', -, ne, stp⟩ := ldcCH a2 a1.1 a6 a7 w wS a3 a4 a5 hE hmem a8.1 ht z1 (by rw [z2]; simp) (g := mkF m pc Ls st) rfl (hb a1.2.1 hd) hn hN hc hsl
  have sf : ∀ x ∈ ws, Z.heap.size ≤ x ∧ x < h'.size ∧ Safe Z EL T'.vm h' x ∧ (x ∈ w0 ∨ hs.size ≤ x) := fun x hx => ⟨(a12 x hx).1, Nat.lt_of_lt_of_le (a12 x hx).2.1 E'.1, C'.safe (a12 x hx).2.1 (a12 x hx).2.2.1, (a12 x hx).2.2.2⟩
  obtain ⟨U, o, q, r⟩ := K h' a b (keepExt E') q1 q2 q3 (Ia.of_arv q4 rfl (by rw [z2]; simp)) (fun x hx => ne x (sf x hx).2.2.1) p e s m args below meth c T'.vm k1 T' locs ⟨a1, X', e', ⟨S', k1'⟩, W', O', a8.trans C', a9, a10.ext E', a11.ext E', sf⟩
  exact ⟨U, o, stp _ q, r⟩
theorem wkBack {B' : wkB} {rm : Room} {as : Array Value} {wc : List Addr} {Q' : Option Value → Heap → List Addr → Prop} {len W : Nat} (M : wkM l Z B' rm as h wc Q') (hO : Old Z Z.heap.size h) (hw : ∀ x ∈ wc, Z.heap.size ≤ x ∧ x < h.size) (hZ : Z.Warmed39 vm0) (wcd : (Cond.code B'.1 B'.2.1 B'.2.2.1 B'.2.2.2).before a0 Z = true) (wz : (Cond.initialized B'.1.cls).before a0 Z = true)
    (hf : rm.frames + 1 ≤ R.frames) (hl : W + (B'.2.2.1 + 11) + rm.locals ≤ R.locals) (hE : EW Z a0 EL) (H : CHv Z EL vm0 h) (hS : ∀ x ∈ wc, Safe Z EL vm0 h x) :
    BackS l R p e below (s.setVm vm0) args B'.1 len W (fun A a => a = as ∧ A.U.heap = h ∧ A.cells + rm.cells ≤ R.cells ∧ A.slots + rm.slots ≤ R.slots)
      (fun A _ v D => ∃ L os, (Q' v D.U.heap os ∧ Keep h D.U.heap wc ∧ Fr Z.heap.size L ∧ Old Z Z.heap.size D.U.heap ∧ wkSf Z D.U.vm D.U.heap h wc os) ∧ D.locs = A.locs ++ L ∧ D.cells = A.cells + rm.cells ∧ D.slots = A.slots + rm.slots ∧ CHr Z EL vm0 h D.U.vm D.U.heap) :=
  BackS.of_freeW (bytes := B'.2.1) (maxL := B'.2.2.1) (ret := B'.2.2.2) (E := fun _ first o t L k n => k = rm.cells ∧ n = rm.slots ∧ (∃ v os, o = .returned v ∧ (Q' v t.heap os ∧ Keep h t.heap wc ∧ Fr Z.heap.size L ∧ Old Z Z.heap.size t.heap ∧ wkSf Z t.vm t.heap h wc os)) ∧ CHr Z EL first.vm first.heap t.vm t.heap) (M hO hw) hf hl
    (fun m meth c A a Y hp => have hU : Z.Warmed39 A.U.vm := wtrans (s := s.setVm vm0) hZ Y.warmed
      ⟨by show (Cond.and _ .tt).before a A.U = true; rw [Cond.before_and, mv hU wcd]; rfl, mv hU wcd, mv hU wz, hp.2.2.1, hp.2.2.2⟩)
    (fun m meth c A a g mk Y hp => ⟨hp.1, wtrans (s := s.setVm vm0) hZ Y.warmed, hp.2.1, (CHv.at Y hZ hE H).1, fun x hx => (CHv.at Y hZ hE H).safe (hw x hx).2 (hS x hx)⟩) (fun _ _ _ _ _ _ _ _ _ => trivial)
    (fun _ _ _ _ ⟨v, L, h1, ⟨os, h2⟩, h3, h4⟩ => ⟨L, _, _, h4, rfl, rfl, ⟨v, os, h1, h2⟩, h3⟩)
    (fun m meth c A a g mk v t L k n Y hp _ _ ⟨e1, e2, ⟨v', os, e3, e4⟩, e5⟩ => by
      cases e3; subst e1 e2
      refine ⟨L, os, e4, rfl, rfl, rfl, (CHv.at Y hZ hE H).trans ?_⟩
      rw [← hp.2.1]; exact e5)
/-- behind a call: the walk goes on over the tables and the heap that the callee left -/
theorem wkAt.back {U : State} {L : List Loc} {os wc : List Addr} {k2 n2 : Nat} (A : wkAt p l e R s m args below meth c Z B hs w0 ws h k n vm0 k0 T locs) (X' : Stand p l e R ((s.setVm vm0).setVm U.vm) m args below meth c U (locs ++ L) k2 n2) (hS : (s.setVm vm0).Since U.vm U.heap.size) (hg : T.heap.size ≤ U.heap.size)
    (hK : Keep h U.heap wc) (hL : Fr Z.heap.size L) (hO : Old Z Z.heap.size U.heap) (hos : wkSf Z U.vm U.heap h wc os) (hC : CHr Z EL vm0 h U.vm U.heap) (hwc : ∀ x ∈ wc, x ∈ ws) : wkAt p l e R s m args below meth c Z B hs w0 (os ++ ws) U.heap k2 n2 U.vm U.heap.size U (locs ++ L) := by
  obtain ⟨a1, a2, a3, ⟨a4, a5⟩, a6, a7, a8, a9, a10, a11, a12⟩ := A
  obtain ⟨r1, r2, r3, r4⟩ := rebS (own := B.1.cls) a4 (by rw [a3]; exact a5) X' hS hg a6 a7
  refine ⟨a1, r1, rfl, ⟨r2, Nat.le_refl _⟩, r3, r4, a8.trans hC, Fr.app a9 hL, hO, a11.trans hK (fun x hx => (a12 x (hwc x hx)).2.2.2), fun x hx => ?_⟩
  rcases List.mem_append.mp hx with q | q
  · obtain ⟨o1, o2, o3, o4⟩ := hos x q
    refine ⟨o1, o2, o3, ?_⟩
    rcases o4 with o4 | o4
    · exact (a12 x (hwc x o4)).2.2.2
    · exact Or.inr (Nat.le_trans a11.1 o4)
  · exact ⟨(a12 x q).1, Nat.lt_of_lt_of_le (a12 x q).2.1 hK.1, hC.safe (a12 x q).2.1 (a12 x q).2.2.1, (a12 x q).2.2.2⟩
theorem wkP.callS (pc' : Nat) {B' : wkB} {rm : Room} {as : Array Value} {wc : List Addr} {Q' : Option Value → Heap → List Addr → Prop} {index : Nat} (M : wkM l Z B' rm as h wc Q') (argsL rest : List Value) (W : Nat) (hE : EW Z a0 EL)
    (w1 : (Cond.methodLink B.1.cls index B'.1).before a0 Z = true) (w2 : (Cond.static B'.1).before a0 Z = true) (w3 : (Cond.initialized B'.1.cls).before a0 Z = true) (w4 : (Cond.code B'.1 B'.2.1 B'.2.2.1 B'.2.2.2).before a0 Z = true)
    (hy : B'.1.cls ≠ "java/lang/invoke/MethodHandle" ∧ B'.1.cls ≠ "java/lang/invoke/VarHandle") (hd : decode B.2.1 pc = .ok (.invokestatic index, 3)) (hlen : ∀ sig, parseMethodDescriptor B'.1.desc = some sig → argsL.length = sig.parameters.length) (has : argsL.toArray = as) (hst : st = argsL.reverse ++ rest) (hsz : Ls.size = B.2.2.1)
    (hwc : ∀ x ∈ wc, x ∈ ws) (hW : 2 * 0 + (rest.map fun v => v.category).sum ≤ W) (hf : rm.frames + 1 ≤ R.frames) (hl : W + (B'.2.2.1 + 11) + rm.locals ≤ R.locals) (hc : k + rm.cells ≤ R.cells) (hsl : n + rm.slots ≤ R.slots) (hp : pc + 3 = pc')
    (K : ∀ (v : Option Value) (h' : Heap) (os : List Addr), Q' v h' os → Keep h h' wc → wkP l Z B R hs w0 Q (os ++ ws) h' (k + rm.cells) (n + rm.slots) pc' Ls (v.toList ++ rest)) : wkP l Z B R hs w0 Q ws h k n pc Ls st := by
  subst hp hst has
  intro p e s m args below meth c vm0 k0 T locs A
  obtain ⟨a1, a2, a3, ⟨a4, a5⟩, a6, a7, a8, a9, a10, a11, a12⟩ := id A
  obtain ⟨v, vm₁, D, -, X', hS, hg, ⟨L, os, ⟨b1, b2, b3, b4, b5⟩, c1, c2, c3, c4⟩, stp⟩ := callSS a2 a1.1 a7 (mvT (s := s.setVm vm0) a6 w1) (mvT (s := s.setVm vm0) a6 w2) (mvT (s := s.setVm vm0) a6 w3) (mvT (s := s.setVm vm0) a6 w4) hy (wkBack M a10 (fun x hx => ⟨(a12 x (hwc x hx)).1, (a12 x (hwc x hx)).2.1⟩) a6 w4 w3 hf hl hE a8.1 (fun x hx => (a12 x (hwc x hx)).2.2.1)) (g := mkF m pc Ls (argsL.reverse ++ rest)) rfl (hsz.trans a1.2.2.1.symm) hlen rfl hW (hb a1.2.1 hd) (fun _ _ => ⟨rfl, a3, hc, hsl⟩)
  obtain ⟨U, dl, dc, ds⟩ := D
  dsimp only at X' hS hg b1 b2 b4 b5 c1 c2 c3 c4 stp
  subst c1 c2 c3
  obtain ⟨U2, o, q, r⟩ := K v U.heap os b1 b2 p e s m args below meth c U.vm U.heap.size U _ (A.back X' hS hg b2 b3 b4 b5 c4 hwc)
  exact ⟨U2, o, stp.trans q, r⟩
theorem wkP.callI (pc' : Nat) {B' : wkB} {rm : Room} {as : Array Value} {wc : List Addr} {Q' : Option Value → Heap → List Addr → Prop} {index : Nat} (M : wkM l Z B' rm as h wc Q') (argsL rest : List Value) (W : Nat) (hE : EW Z a0 EL)
    (w1 : (Cond.methodLink B.1.cls index B'.1).before a0 Z = true) (w2 : (Cond.instanceMethod B'.1).before a0 Z = true) (w3 : (Cond.initialized B'.1.cls).before a0 Z = true) (w4 : (Cond.code B'.1 B'.2.1 B'.2.2.1 B'.2.2.2).before a0 Z = true) (hnm : B'.1.name = "<init>") (hrt : B'.2.2.2 = none)
    (hy : B'.1.cls ≠ "java/lang/invoke/MethodHandle" ∧ B'.1.cls ≠ "java/lang/invoke/VarHandle") (hd : decode B.2.1 pc = .ok (.invokespecial index, 3)) (hlen : ∀ sig, parseMethodDescriptor B'.1.desc = some sig → argsL.length = sig.parameters.length) (has : (.ref a :: argsL).toArray = as) (hst : st = argsL.reverse ++ .ref a :: rest) (hsz : Ls.size = B.2.2.1)
    (hwc : ∀ x ∈ wc, x ∈ ws) (hW : 2 * 0 + (rest.map fun v => v.category).sum ≤ W) (hf : rm.frames + 1 ≤ R.frames) (hl : W + (B'.2.2.1 + 11) + rm.locals ≤ R.locals) (hc : k + rm.cells ≤ R.cells) (hsl : n + rm.slots ≤ R.slots) (hp : pc + 3 = pc')
    (K : ∀ (v : Option Value) (h' : Heap) (os : List Addr), Q' v h' os → Keep h h' wc → wkP l Z B R hs w0 Q (os ++ ws) h' (k + rm.cells) (n + rm.slots) pc' Ls (v.toList ++ rest)) : wkP l Z B R hs w0 Q ws h k n pc Ls st := by
  subst hp hst has
  intro p e s m args below meth c vm0 k0 T locs A
  obtain ⟨a1, a2, a3, ⟨a4, a5⟩, a6, a7, a8, a9, a10, a11, a12⟩ := id A
  have w4' : (Cond.code B'.1 B'.2.1 B'.2.2.1 none).before a0 Z = true := hrt ▸ w4
  obtain ⟨v, vm₁, D, -, X', hS, hg, ⟨L, os, ⟨b1, b2, b3, b4, b5⟩, c1, c2, c3, c4⟩, stp⟩ := a2.specialBackS a1.1 hnm a7 (mvT (s := s.setVm vm0) a6 w1) (mvT (s := s.setVm vm0) a6 w2) (mvT (s := s.setVm vm0) a6 w4') hy (wkBack M a10 (fun x hx => ⟨(a12 x (hwc x hx)).1, (a12 x (hwc x hx)).2.1⟩) a6 w4 w3 hf hl hE a8.1 (fun x hx => (a12 x (hwc x hx)).2.2.1)) (g := mkF m pc Ls (argsL.reverse ++ .ref a :: rest)) rfl (hsz.trans a1.2.2.1.symm) (Steps.refl _) hlen rfl hW (hb a1.2.1 hd) (fun _ _ => ⟨rfl, a3, hc, hsl⟩)
  obtain ⟨U, dl, dc, ds⟩ := D
  dsimp only at X' hS hg b1 b2 b4 b5 c1 c2 c3 c4 stp
  subst c1 c2 c3
  obtain ⟨U2, o, q, r⟩ := K v U.heap os b1 b2 p e s m args below meth c U.vm U.heap.size U _ (A.back X' hS hg b2 b3 b4 b5 c4 hwc)
  exact ⟨U2, o, stp.trans q, r⟩
theorem wkNFs {C : String} {y : MethodName} (w : (Cond.selects C y y).before a0 Z = true) : ∀ s : State, Z.Warmed39 s.vm → NotFace s y := fun s hZ => notFace_of_selects (args := #[]) (mvT hZ w)
theorem wkP.callV (pc' : Nat) {y : MethodName} {C : String} {B' : wkB} {rm : Room} {as : Array Value} {wc : List Addr} {Q' : Option Value → Heap → List Addr → Prop} {index : Nat} (M : wkM l Z B' rm as h wc Q') (argsL rest : List Value) (W : Nat) (hE : EW Z a0 EL) (E : Exa Z h a C) (NF : ∀ s : State, Z.Warmed39 s.vm → NotFace s y)
    (w1 : (Cond.methodLink B.1.cls index y).before a0 Z = true) (w1' : (Cond.declares y).before a0 Z = true) (w2 : (Cond.selects C y B'.1).before a0 Z = true) (w2' : (Cond.instanceMethod B'.1).before a0 Z = true) (w3 : (Cond.initialized B'.1.cls).before a0 Z = true) (w4 : (Cond.code B'.1 B'.2.1 B'.2.2.1 B'.2.2.2).before a0 Z = true)
    (hy : y.cls ≠ "java/lang/invoke/MethodHandle" ∧ y.cls ≠ "java/lang/invoke/VarHandle") (hd : decode B.2.1 pc = .ok (.invokevirtual index, 3)) (hlen : ∀ sig, parseMethodDescriptor y.desc = some sig → argsL.length = sig.parameters.length) (has : (.ref a :: argsL).toArray = as) (hst : st = argsL.reverse ++ .ref a :: rest) (hsz : Ls.size = B.2.2.1)
    (hwc : ∀ x ∈ wc, x ∈ ws) (hW : 2 * 0 + (rest.map fun v => v.category).sum ≤ W) (hf : rm.frames + 1 ≤ R.frames) (hl : W + (B'.2.2.1 + 11) + rm.locals ≤ R.locals) (hc : k + rm.cells ≤ R.cells) (hsl : n + rm.slots ≤ R.slots) (hp : pc + 3 = pc')
    (K : ∀ (v : Option Value) (h' : Heap) (os : List Addr), Q' v h' os → Keep h h' wc → wkP l Z B R hs w0 Q (os ++ ws) h' (k + rm.cells) (n + rm.slots) pc' Ls (v.toList ++ rest)) : wkP l Z B R hs w0 Q ws h k n pc Ls st := by
  subst hp hst has
  intro p e s m args below meth c vm0 k0 T locs A
  obtain ⟨a1, a2, a3, ⟨a4, a5⟩, a6, a7, a8, a9, a10, a11, a12⟩ := id A
  obtain ⟨cq, kq, i1, i2, i3⟩ := isOf (s := s.setVm vm0) a6 a3 E
  obtain ⟨v, vm₁, D, -, X', hS, hg, ⟨L, os, ⟨b1, b2, b3, b4, b5⟩, c1, c2, c3, c4⟩, stp⟩ := a2.virtualBackS a1.1 (y := y) (z := B'.1) a7 (mvT (s := s.setVm vm0) a6 w1) (mvT (s := s.setVm vm0) a6 w1') (NF (s.setVm vm0) a6) (mvT (s := s.setVm vm0) a6 w2) (mvT (s := s.setVm vm0) a6 w2') hy (wkBack M a10 (fun x hx => ⟨(a12 x (hwc x hx)).1, (a12 x (hwc x hx)).2.1⟩) a6 w4 w3 hf hl hE a8.1 (fun x hx => (a12 x (hwc x hx)).2.2.1)) i1 i3 (g := mkF m pc Ls (argsL.reverse ++ .ref a :: rest)) rfl (hsz.trans a1.2.2.1.symm) (Steps.refl _) hlen rfl hW (hb a1.2.1 hd) (fun _ _ => ⟨rfl, a3, hc, hsl⟩)
  obtain ⟨U, dl, dc, ds⟩ := D
  dsimp only at X' hS hg b1 b2 b4 b5 c1 c2 c3 c4 stp
  subst c1 c2 c3
  obtain ⟨U2, o, q, r⟩ := K v U.heap os b1 b2 p e s m args below meth c U.vm U.heap.size U _ (A.back X' hS hg b2 b3 b4 b5 c4 hwc)
  exact ⟨U2, o, stp.trans q, r⟩
theorem wkP.old (K : Ext Z.heap h → wkP l Z B R hs w0 Q ws h k n pc Ls st) : wkP l Z B R hs w0 Q ws h k n pc Ls st := by
  intro p e s m args below meth c vm0 k0 T locs A
  exact K A.2.2.2.2.2.2.2.2.1.2 p e s m args below meth c vm0 k0 T locs A
theorem wkP.callF (pc' : Nat) {y : MethodName} {C : String} {B' : wkB} {rm : Room} {as : Array Value} {wc : List Addr} {Q' : Option Value → Heap → List Addr → Prop} {index count : Nat} (M : wkM l Z B' rm as h wc Q') (argsL rest : List Value) (W : Nat) (hE : EW Z a0 EL) (E : Exa Z h a C)
    (w1 : (Cond.methodLink B.1.cls index y).before a0 Z = true) (w1' : (Cond.declares y).before a0 Z = true) (wf : (Cond.interfaceMethod y.cls y.cls y.name y.desc).before a0 Z = true) (hfa : ((Cond.interfaceMethod y.cls y.cls y.name y.desc).onTables && (Cond.interfaceMethod y.cls y.cls y.name y.desc).keepsFace) = true) (w2 : (Cond.selects C y B'.1).before a0 Z = true) (w2' : (Cond.instanceMethod B'.1).before a0 Z = true) (wp : (Cond.publicMethod B'.1).before a0 Z = true) (wu : (Cond.unhidden C y.name y.desc).before a0 Z = true) (wk : (Cond.castable C y.cls).before a0 Z = true) (w3 : (Cond.initialized B'.1.cls).before a0 Z = true) (w4 : (Cond.code B'.1 B'.2.1 B'.2.2.1 B'.2.2.2).before a0 Z = true)
    (hy : y.cls ≠ "java/lang/invoke/MethodHandle" ∧ y.cls ≠ "java/lang/invoke/VarHandle") (hd : decode B.2.1 pc = .ok (.invokeinterface index count, 5)) (hlen : ∀ sig, parseMethodDescriptor y.desc = some sig → argsL.length = sig.parameters.length) (has : (.ref a :: argsL).toArray = as) (hst : st = argsL.reverse ++ .ref a :: rest) (hsz : Ls.size = B.2.2.1)
    (hwc : ∀ x ∈ wc, x ∈ ws) (hW : 2 * 0 + (rest.map fun v => v.category).sum ≤ W) (hf : rm.frames + 1 ≤ R.frames) (hl : W + (B'.2.2.1 + 11) + rm.locals ≤ R.locals) (hc : k + rm.cells ≤ R.cells) (hsl : n + rm.slots ≤ R.slots) (hp : pc + 5 = pc')
    (K : ∀ (v : Option Value) (h' : Heap) (os : List Addr), Q' v h' os → Keep h h' wc → wkP l Z B R hs w0 Q (os ++ ws) h' (k + rm.cells) (n + rm.slots) pc' Ls (v.toList ++ rest)) : wkP l Z B R hs w0 Q ws h k n pc Ls st := by
  subst hp hst has
  intro p e s m args below meth c vm0 k0 T locs A
  obtain ⟨a1, a2, a3, ⟨a4, a5⟩, a6, a7, a8, a9, a10, a11, a12⟩ := id A
  obtain ⟨cq, kq, i1, i2, i3⟩ := isOf (s := s.setVm vm0) a6 a3 E
  obtain ⟨v, vm₁, D, -, X', hS, hg, ⟨L, os, ⟨b1, b2, b3, b4, b5⟩, c1, c2, c3, c4⟩, stp⟩ := a2.interfaceBackS a1.1 (xi := y) (y := B'.1) a7 (mvT (s := s.setVm vm0) a6 w1) (mvT (s := s.setVm vm0) a6 w1') (mvT (s := s.setVm vm0) a6 wf hfa) (mvT (s := s.setVm vm0) a6 w2) (mvT (s := s.setVm vm0) a6 w2') (mvT (s := s.setVm vm0) a6 wp) (mvT (s := s.setVm vm0) a6 wu) (mvT (s := s.setVm vm0) a6 wk) hy (wkBack M a10 (fun x hx => ⟨(a12 x (hwc x hx)).1, (a12 x (hwc x hx)).2.1⟩) a6 w4 w3 hf hl hE a8.1 (fun x hx => (a12 x (hwc x hx)).2.2.1)) i1 i2 i3 (g := mkF m pc Ls (argsL.reverse ++ .ref a :: rest)) rfl (hsz.trans a1.2.2.1.symm) (Steps.refl _) hlen rfl hW (hb a1.2.1 hd) (fun _ _ => ⟨rfl, a3, hc, hsl⟩)
  obtain ⟨U, dl, dc, ds⟩ := D
  dsimp only at X' hS hg b1 b2 b4 b5 c1 c2 c3 c4 stp
  subst c1 c2 c3
  obtain ⟨U2, o, q, r⟩ := K v U.heap os b1 b2 p e s m args below meth c U.vm U.heap.size U _ (A.back X' hS hg b2 b3 b4 b5 c4 hwc)
  exact ⟨U2, o, stp.trans q, r⟩
theorem wkMore {s U : State} {o : Outcome} {L : List Loc} {k n k1 n1 : Nat} (hE : ReturnedEndW s o U L k n) (hk : k ≤ k1) (hn : n ≤ n1) : ReturnedEndW s o U L k1 n1 := ⟨hE.1, hE.2.1, hE.2.2.1, hE.2.2.2.mono hk hn⟩
theorem wkP.leave {rv : Option Value} {stk : List Value} (os : List Addr) (hE : EW Z a0 EL) (hq : Q rv h os) (hos : ∀ x ∈ os, x ∈ ws) (hk : k ≤ R.cells) (hn : n ≤ R.slots) (hv : B.2.2.2 = none → rv = none)
    (hst : ∀ (p : Program) (e : Env) (s : State) (m : MethodId) (args : Array Value) (below : List Frame) (meth : Method) (c : Code) (vm0 : Vm) (T : State) (locs : List Loc), p.tables.exec = Jvm.exec → c.code = B.2.1 → meth.sig.returnType = B.2.2.2 → Stand p l e R (s.setVm vm0) m args below meth c T locs k n → ∀ fs, (∀ (f : JFrame) (acts : List Action), f.method = m → f.locked = none → f.entered = [] → (doReturn e (T.setTop f) acts rv).1 = T.setFrames fs) → Steps p.tables e below (T.setTop (mkF m pc Ls stk)) (T.setFrames fs)) : wkP l Z B R hs w0 Q ws h k n pc Ls stk := by
  intro p e s m args below meth c vm0 k0 T locs A
  obtain ⟨a1, a2, a3, ⟨a4, a5⟩, a6, a7, a8, a9, a10, a11, a12⟩ := A
  obtain ⟨fs, hr, hrun, hended, hend⟩ := a2.leaveW a4 (by rw [a3]; exact a5) (v := rv) (fun q => hv (a1.2.2.2.1.symm.trans q)) a1.2.2.2.2.1
  have C1 := CHv.at a2 a6 hE a8.1
  subst a3
  exact ⟨_, _, hst p e s m args below meth c vm0 T locs a1.1 a1.2.1 a1.2.2.2.1 a2 fs hr, hrun, hended, rv, locs, rfl, ⟨os, hq, a11, a9, a10, fun x hx => ⟨(a12 x (hos x hx)).1, (a12 x (hos x hx)).2.1, C1.safe (a12 x (hos x hx)).2.1 (a12 x (hos x hx)).2.2.1, (a12 x (hos x hx)).2.2.2⟩⟩, a8.trans C1, wkMore hend hk hn⟩
theorem wkP.ret {i : Instr} {w : Value} (t : FieldType) (os : List Addr) (hE : EW Z a0 EL) (hd : decode B.2.1 pc = .ok (i, 1)) (hret : B.2.2.2 = some t) (hnr : narrow t w = w)
    (hi : (i = .ireturn ∧ (t = .int ∨ t = .boolean ∨ t = .byte ∨ t = .char ∨ t = .short) ∧ ∃ z, w = .int z) ∨ (i = .lreturn ∧ t = .long ∧ ∃ z, w = .long z) ∨ (i = .dreturn ∧ t = .double ∧ ∃ z, w = .double z) ∨ (i = .freturn ∧ t = .float ∧ ∃ z, w = .float z) ∨ (i = .areturn ∧ t.isReference = true ∧ w.isRef = true))
    (hk : k ≤ R.cells) (hn : n ≤ R.slots) (hos : ∀ x ∈ os, x ∈ ws) (hq : Q (some w) h os) : wkP l Z B R hs w0 Q ws h k n pc Ls (w :: st) :=
  .leave os hE hq hos hk hn (fun q => by rw [hret] at q; cases q) (fun p e s m args below meth c vm0 T locs hx hby hr X fs hl => retOut X hx (hr.trans hret) hnr hi (hb hby hd) hl)
theorem wkP.retA {a : Addr} (t : FieldType) (os : List Addr) (hE : EW Z a0 EL) (hd : decode B.2.1 pc = .ok (.areturn, 1)) (hret : B.2.2.2 = some t) (ht : t.isReference = true)
    (hk : k ≤ R.cells) (hn : n ≤ R.slots) (hos : ∀ x ∈ os, x ∈ ws) (hq : Q (some (.ref a)) h os) : wkP l Z B R hs w0 Q ws h k n pc Ls (.ref a :: st) :=
  .ret t os hE hd hret (by cases t <;> first | rfl | exact Bool.noConfusion ht) (Or.inr (Or.inr (Or.inr (Or.inr ⟨rfl, ht, rfl⟩)))) hk hn hos hq
theorem wkP.retI {z : Int32} (t : FieldType) (os : List Addr) (hE : EW Z a0 EL) (hd : decode B.2.1 pc = .ok (.ireturn, 1)) (hret : B.2.2.2 = some t) (ht : t = .int ∨ t = .boolean ∨ t = .byte ∨ t = .char ∨ t = .short) (hnr : narrow t (.int z) = .int z)
    (hk : k ≤ R.cells) (hn : n ≤ R.slots) (hos : ∀ x ∈ os, x ∈ ws) (hq : Q (some (.int z)) h os) : wkP l Z B R hs w0 Q ws h k n pc Ls (.int z :: st) :=
  .ret t os hE hd hret hnr (Or.inl ⟨rfl, ht, z, rfl⟩) hk hn hos hq
theorem wkP.ret0 (os : List Addr) (hE : EW Z a0 EL) (hd : decode B.2.1 pc = .ok (.return_, 1)) (hret : B.2.2.2 = none)
    (hk : k ≤ R.cells) (hn : n ≤ R.slots) (hos : ∀ x ∈ os, x ∈ ws) (hq : Q none h os) : wkP l Z B R hs w0 Q ws h k n pc Ls [] :=
  .leave os hE hq hos hk hn (fun _ => rfl) (fun p e s m args below meth c vm0 T locs hx hby hr X fs hl => X.returnOut hx (hr.trans hret) (hb hby hd) hl)
theorem wkM.of {B : wkB} {rm : Room} {as : Array Value} {w0 : List Addr} (Ls : Array Slot) (hpl : plainFor B.1 = true) (he : ∀ m, entryFrame m as B.2.2.1 = mkF m 0 Ls []) (K : wkP l Z B rm h w0 Q w0 h 0 0 0 Ls []) : wkM l Z B rm as h w0 Q := by
  intro hO hw
  refine MetFree.of_bodySF hpl hisR ?_
  intro p e s m args below meth c s₁ Bd hml hP hK
  obtain ⟨rfl, hZ, hh, hC, hS⟩ := hP
  have X0 : Stand p l e rm s m args below meth c s₁ [] 0 0 := Stand.of_body Bd
  have e0 : s₁.heap = h := by rw [← hh, Bd.state]; rfl
  subst hh
  obtain ⟨U, o, st, r⟩ := K p e s m args below meth c s.vm s.heap.size s₁ [] ⟨⟨Bd.exec, Bd.bytes, hml, Bd.returns, Bd.notSynchronized, (name_of_methodNamed Bd.named Bd.method).1⟩, X0, e0, ⟨(State.WarmedH.refl s).since _, Nat.le_refl _⟩, hZ, findClass_of_methodNamed Bd.named, CHr.refl hC, Fr.nil _, hO, Keep.refl _ _, fun x hx => ⟨(hw x hx).1, (hw x hx).2, hS x hx, Or.inl hx⟩⟩
  exact ⟨U, o, castTop (he m) st, r⟩
theorem wkM.mono {B : wkB} {rm : Room} {as : Array Value} {w0 : List Addr} {Q2 : Option Value → Heap → List Addr → Prop} (M : wkM l Z B rm as h w0 Q) (q : ∀ v h' os, Q v h' os → Q2 v h' os) : wkM l Z B rm as h w0 Q2 := by
  intro hO hw p e ha hc hk s m args below hf happ hP hK
  obtain ⟨n, o, h1, h2, h3, v, L, e1, ⟨os, b1, b2⟩, r⟩ := M hO hw p e ha hc hk s m args below hf happ hP hK
  exact ⟨n, o, h1, h2, h3, v, L, e1, ⟨os, q _ _ _ b1, b2⟩, r⟩
end Rules2
end WK

section Str
/-- what is known all along: the sheet's words, the literals' texts, compact strings are on -/
def G (Z : State) (a0 : Array Value) : Prop := (∀ d ∈ tables_1, d.before a0 Z = true) ∧ EW Z a0 EL ∧ (∃ z : Int32, Sta Z Z.heap "java/lang/String" "COMPACT_STRINGS" "Z" (.int z) ∧ ¬ z = 0) ∧ (∃ v : Value, Sta Z Z.heap "jdk/internal/util/Preconditions" "SIOOBE_FORMATTER" "Ljava/util/function/BiFunction;" v ∧ v.isRef = true) ∧ Sta Z Z.heap "java/lang/StringUTF16" "$assertionsDisabled" "Z" (.int 1) ∧ Sta Z Z.heap "java/lang/StringUTF16" "HI_BYTE_SHIFT" "I" (.int 0) ∧ Sta Z Z.heap "java/lang/StringUTF16" "LO_BYTE_SHIFT" "I" (.int 8)
theorem ofNat_lt {i j : Nat} (hi : i < 2 ^ 31) (hj : j < 2 ^ 31) : Int32.ofNat i < Int32.ofNat j ↔ i < j := by
  rw [Int32.lt_iff_toInt_lt, toInt_of (n := Int32.ofNat i) rfl hi, toInt_of (n := Int32.ofNat j) rfl hj]; omega
theorem ofNat_inj {i j : Nat} (hi : i < 2 ^ 31) (hj : j < 2 ^ 31) : Int32.ofNat i = Int32.ofNat j ↔ i = j := by
  constructor
  · intro q
    have := congrArg Int32.toInt q
    rw [toInt_of (n := Int32.ofNat i) rfl hi, toInt_of (n := Int32.ofNat j) rfl hj] at this; omega
  · intro q; rw [q]
theorem toI {i : Nat} (hi : i < 2 ^ 31) : (Int32.ofNat i).toInt = (i : Int) := toInt_of rfl hi
theorem inc1 (i : Nat) : Int32.ofNat i + Int32.ofInt 1 = Int32.ofNat (i + 1) := (inc_ofNat i).symm
def lo8 (c : Int32) : Int32 := c.toInt8.toInt32
theorem lo8_i (c : Int32) : (lo8 c).toInt = c.toInt.bmod 256 := by simp [lo8]
theorem nar_lo8 (c : Int32) : nar .byte (lo8 c) = lo8 c := by
  show (lo8 c).toInt8.toInt32 = lo8 c
  rw [← Int32.toInt_inj]
  show (lo8 (lo8 c)).toInt = _
  rw [lo8_i, lo8_i]; simp
def lat (cs : List Int32) : Prop := ∀ c ∈ cs, ¬ c < 0 ∧ ¬ 255 < c
theorem lo8_inj {c d : Int32} (hc : ¬ c < 0 ∧ ¬ 255 < c) (hd : ¬ d < 0 ∧ ¬ 255 < d) (q : lo8 c = lo8 d) : c = d := by
  have := congrArg Int32.toInt q
  rw [lo8_i, lo8_i] at this
  rw [← Int32.toInt_inj]
  simp only [Int32.lt_iff_toInt_lt, Int32.reduceToInt] at hc hd
  simp only [Int.bmod_def] at this
  omega
theorem lat_map_inj : ∀ {cs ds : List Int32}, lat cs → lat ds → cs.map lo8 = ds.map lo8 → cs = ds
  | [], [], _, _, _ => rfl
  | [], _ :: _, _, _, q => by simp at q
  | _ :: _, [], _, _, q => by simp at q
  | c :: cs, d :: ds, h1, h2, q => by
    simp only [List.map_cons, List.cons.injEq] at q
    rw [lo8_inj (h1 c (by simp)) (h2 d (by simp)) q.1, lat_map_inj (fun x hx => h1 x (by simp [hx])) (fun x hx => h2 x (by simp [hx])) q.2]
/-- the String at a is compact, its bytes (at b) those of these chars -/
def SL (Z : State) (h : Heap) (a b : Addr) (cs : List Int32) : Prop := Exa Z h a "java/lang/String" ∧ Fld Z h a "java/lang/String" "coder" "B" (.int 0) ∧ Fld Z h a "java/lang/String" "value" "[B" (.ref b) ∧ Ia Z h b .byte (cs.map lo8) ∧ lat cs
theorem SL.keep {Z : State} {h h' : Heap} {a b : Addr} {cs : List Int32} {ws : List Addr} (F : SL Z h a b cs) (K : Keep h h' ws) (qa : a ∉ ws) (qb : b ∉ ws) : SL Z h' a b cs := ⟨F.1.keep K, F.2.1.keep K qa, F.2.2.1.keep K qa, F.2.2.2.1.keep K qb, F.2.2.2.2⟩
theorem SL.lta {Z : State} {h : Heap} {a b : Addr} {cs : List Int32} (F : SL Z h a b cs) : h.size > a := F.1.lt
theorem SL.ltb {Z : State} {h : Heap} {a b : Addr} {cs : List Int32} (F : SL Z h a b cs) : h.size > b := F.2.2.2.1.lt
theorem SL.len {Z : State} {h : Heap} {a b : Addr} {cs : List Int32} (F : SL Z h a b cs) : cs.length < 2 ^ 31 := by have := F.2.2.2.1.len; simpa using this
theorem narB0 {z : Int32} (q : z = 0 ∨ z = 1) : narrow .boolean (.int z) = .int z := by rcases q with rfl | rfl <;> rfl

def hi8 (c : Int32) : Int32 := (c >>> ((8 : Int32) &&& 31)).toInt8.toInt32
def chs (cs : List Int32) : Prop := ∀ c ∈ cs, ¬ c < 0 ∧ ¬ 65535 < c
def u16 : List Int32 → List Int32
  | [] => []
  | c :: cs => lo8 c :: hi8 c :: u16 cs
theorem u16_len : ∀ cs : List Int32, (u16 cs).length = 2 * cs.length
  | [] => rfl
  | _ :: cs => by simp [u16, u16_len cs]; omega
theorem u16_at : ∀ (cs : List Int32) (i : Nat) (c : Int32), cs[i]? = some c → (u16 cs)[2 * i]? = some (lo8 c) ∧ (u16 cs)[2 * i + 1]? = some (hi8 c)
  | [], i, c, q => by simp at q
  | d :: cs, 0, c, q => by simp at q; simp [u16, q]
  | d :: cs, i + 1, c, q => by
    have := u16_at cs i c (by simpa using q)
    simpa [u16, show 2 * (i + 1) = 2 * i + 1 + 1 by omega] using this
theorem u16_ext {cs ys : List Int32} (hl : ys.length = 2 * cs.length) (hj : ∀ j, j < cs.length → ∃ c, cs[j]? = some c ∧ ys[2 * j]? = some (lo8 c) ∧ ys[2 * j + 1]? = some (hi8 c)) : ys = u16 cs := by
  refine List.ext_getElem? fun t => ?_
  rcases Nat.lt_or_ge t (2 * cs.length) with q | q
  · obtain ⟨c, c1, c2, c3⟩ := hj (t / 2) (by omega)
    have := u16_at cs (t / 2) c c1
    rcases Nat.mod_two_eq_zero_or_one t with r | r
    · rw [show t = 2 * (t / 2) by omega, c2, this.1]
    · rw [show t = 2 * (t / 2) + 1 by omega, c3, this.2]
  · rw [List.getElem?_eq_none (by omega), List.getElem?_eq_none (by rw [u16_len]; exact q)]
theorem shr0 (c : Int32) : c >>> ((0 : Int32) &&& 31) = c := by
  have h : (c >>> ((0 : Int32) &&& 31)).toInt = c.toInt / 1 := c_ishr c 0 0 (by decide)
  rw [← Int32.toInt_inj, h]; omega
theorem shl0 (c : Int32) : c <<< ((0 : Int32) &&& 31) = c := by
  have h : ((c <<< ((0 : Int32) &&& 31)).toInt - c.toInt * 1) % 4294967296 = 0 := c_ishl c 0 0 (by decide)
  have h1 := rng32 c
  have h2 := rng32 (c <<< ((0 : Int32) &&& 31))
  rw [← Int32.toInt_inj]; omega
theorem nn_of {i : Nat} (hi : i < 2 ^ 31) : ¬ Int32.ofNat i < 0 := by
  rw [Int32.lt_iff_toInt_lt, toI hi]; simp only [Int32.reduceToInt]; omega
theorem shl1 {i : Nat} (hi : 2 * i < 2 ^ 31) : Int32.ofNat i <<< ((1 : Int32) &&& 31) = Int32.ofNat (2 * i) := by
  have h : ((Int32.ofNat i <<< ((1 : Int32) &&& 31)).toInt - (Int32.ofNat i).toInt * 2) % 4294967296 = 0 := c_ishl (Int32.ofNat i) 1 1 (by decide)
  have h2 := rng32 (Int32.ofNat i <<< ((1 : Int32) &&& 31))
  rw [← Int32.toInt_inj, toI hi]; rw [toI (show i < 2 ^ 31 by omega)] at h; omega
theorem shr1 {i : Nat} (hi : 2 * i < 2 ^ 31) : Int32.ofNat (2 * i) >>> ((1 : Int32) &&& 31) = Int32.ofNat i := by
  have h : (Int32.ofNat (2 * i) >>> ((1 : Int32) &&& 31)).toInt = (Int32.ofNat (2 * i)).toInt / 2 := c_ishr _ 1 1 (by decide)
  rw [toI hi] at h
  rw [← Int32.toInt_inj, h, toI (show i < 2 ^ 31 by omega)]; omega
theorem hi8_i (c : Int32) : (hi8 c).toInt = (c.toInt / 256).bmod 256 := by
  have h := c_ishr c 8 8 (by decide)
  show (lo8 (c >>> ((8 : Int32) &&& 31))).toInt = _
  rw [lo8_i, h]; rfl
theorem nar_hi8 (c : Int32) : nar .byte (hi8 c) = hi8 c := nar_lo8 _
theorem i2c_ch {x : Int32} (q : ¬ x < 0 ∧ ¬ 65535 < x) : x.toUInt32.toUInt16.toUInt32.toInt32 = x := by
  have h := c_i2c x
  rw [← Int32.toInt_inj]
  simp only [Int32.lt_iff_toInt_lt, Int32.reduceToInt] at q
  omega
theorem nar_c {x : Int32} (q : ¬ x < 0 ∧ ¬ 65535 < x) : nar .char x = x := i2c_ch q
theorem lat_get {c : Int32} (q : ¬ c < 0 ∧ ¬ 255 < c) : (lo8 c &&& 255).toUInt32.toUInt16.toUInt32.toInt32 = c := by
  rw [i2c_mask]
  have h1 := c_mask (lo8 c) 255 8 (by decide) (by decide)
  rw [lo8_i] at h1
  rw [← Int32.toInt_inj, h1]
  simp only [Int32.lt_iff_toInt_lt, Int32.reduceToInt] at q
  simp only [Int.bmod_def]; omega
theorem u16_get {c : Int32} (q : ¬ c < 0 ∧ ¬ 65535 < c) : ((lo8 c &&& 255) ||| ((hi8 c &&& 255) <<< ((8 : Int32) &&& 31))).toUInt32.toUInt16.toUInt32.toInt32 = c := by
  have h1 := c_mask (lo8 c) 255 8 (by decide) (by decide)
  have h2 := c_mask (hi8 c) 255 8 (by decide) (by decide)
  rw [lo8_i] at h1
  rw [hi8_i] at h2
  have h3 := c_ishl (hi8 c &&& 255) 8 8 (by decide)
  have h4 := rng32 ((hi8 c &&& 255) <<< ((8 : Int32) &&& 31))
  simp only [Int32.lt_iff_toInt_lt, Int32.reduceToInt] at q
  simp only [Int.bmod_def] at h1 h2
  have h5 := c_or' (lo8 c &&& 255) ((hi8 c &&& 255) <<< ((8 : Int32) &&& 31)) 8 (by decide) 256 (by decide) (by omega) (by omega) (by omega)
  have h6 := rng32 ((lo8 c &&& 255) ||| ((hi8 c &&& 255) <<< ((8 : Int32) &&& 31)))
  have h7 := c_i2c ((lo8 c &&& 255) ||| ((hi8 c &&& 255) <<< ((8 : Int32) &&& 31)))
  rw [← Int32.toInt_inj]
  omega
/-- the String at a is UTF16 -/
def SU (Z : State) (h : Heap) (a b : Addr) (cs : List Int32) : Prop := Exa Z h a "java/lang/String" ∧ Fld Z h a "java/lang/String" "coder" "B" (.int 1) ∧ Fld Z h a "java/lang/String" "value" "[B" (.ref b) ∧ Ia Z h b .byte (u16 cs) ∧ chs cs ∧ ¬ lat cs
theorem SU.keep {Z : State} {h h' : Heap} {a b : Addr} {cs : List Int32} {ws : List Addr} (F : SU Z h a b cs) (K : Keep h h' ws) (qa : a ∉ ws) (qb : b ∉ ws) : SU Z h' a b cs := ⟨F.1.keep K, F.2.1.keep K qa, F.2.2.1.keep K qa, F.2.2.2.1.keep K qb, F.2.2.2.2⟩
/-- the String at a spells these chars -/
def St (Z : State) (h : Heap) (a b : Addr) (cs : List Int32) : Prop := SL Z h a b cs ∨ SU Z h a b cs
theorem St.keep {Z : State} {h h' : Heap} {a b : Addr} {cs : List Int32} {ws : List Addr} (F : St Z h a b cs) (K : Keep h h' ws) (qa : a ∉ ws) (qb : b ∉ ws) : St Z h' a b cs := F.imp (·.keep K qa qb) (·.keep K qa qb)
theorem St.exa {Z : State} {h : Heap} {a b : Addr} {cs : List Int32} (F : St Z h a b cs) : Exa Z h a "java/lang/String" := F.elim (·.1) (·.1)
theorem St.lta {Z : State} {h : Heap} {a b : Addr} {cs : List Int32} (F : St Z h a b cs) : h.size > a := F.exa.lt
theorem St.ltb {Z : State} {h : Heap} {a b : Addr} {cs : List Int32} (F : St Z h a b cs) : h.size > b := F.elim (·.2.2.2.1.lt) (·.2.2.2.1.lt)
theorem St.ch {Z : State} {h : Heap} {a b : Addr} {cs : List Int32} (F : St Z h a b cs) : chs cs := F.elim (fun q c hc => ⟨(q.2.2.2.2 c hc).1, by have := (q.2.2.2.2 c hc).2; simp only [Int32.lt_iff_toInt_lt, Int32.reduceToInt] at this ⊢; omega⟩) (·.2.2.2.2.1)
theorem St.len {Z : State} {h : Heap} {a b : Addr} {cs : List Int32} (F : St Z h a b cs) : cs.length < 2 ^ 31 := F.elim (·.len) (fun q => by have := q.2.2.2.1.len; rw [u16_len] at this; omega)
theorem lat_em (cs : List Int32) : lat cs ∨ ¬ lat cs := Classical.em _
end Str
theorem w0 {Z : State} {a0 : Array Value} (hw : ∀ d ∈ tables_1, d.before a0 Z = true) : (Jvm.Cond.constant "com/example/sober_commit/sobercommit/SeenTextsSlotPinLaw" (7 : Nat) (2147483647 : Int32)).before a0 Z = true := hw _ (List.mem_of_getElem? (i := 0) rfl)
theorem w1 {Z : State} {a0 : Array Value} (hw : ∀ d ∈ tables_1, d.before a0 Z = true) : (Jvm.Cond.arrayClass Jvm.ClassFile.FieldType.char).before a0 Z = true := hw _ (List.mem_of_getElem? (i := 1) rfl)
theorem w2 {Z : State} {a0 : Array Value} (hw : ∀ d ∈ tables_1, d.before a0 Z = true) : (Jvm.Cond.methodLink "com/example/sober_commit/sobercommit/SeenTextsSlotPinLaw" (8 : Nat) ({ cls := "com/example/sober_commit/sobercommit/SeenTextsSlotPinLaw", name := "text", desc := "([CI)Ljava/lang/String;" } : Jvm.MethodName)).before a0 Z = true := hw _ (List.mem_of_getElem? (i := 2) rfl)
theorem w3 {Z : State} {a0 : Array Value} (hw : ∀ d ∈ tables_1, d.before a0 Z = true) : (Jvm.Cond.static ({ cls := "com/example/sober_commit/sobercommit/SeenTextsSlotPinLaw", name := "text", desc := "([CI)Ljava/lang/String;" } : Jvm.MethodName)).before a0 Z = true := hw _ (List.mem_of_getElem? (i := 3) rfl)
theorem w4 {Z : State} {a0 : Array Value} (hw : ∀ d ∈ tables_1, d.before a0 Z = true) : (Jvm.Cond.initialized "com/example/sober_commit/sobercommit/SeenTextsSlotPinLaw").before a0 Z = true := hw _ (List.mem_of_getElem? (i := 4) rfl)
theorem w5 {Z : State} {a0 : Array Value} (hw : ∀ d ∈ tables_1, d.before a0 Z = true) : (Jvm.Cond.code ({ cls := "com/example/sober_commit/sobercommit/SeenTextsSlotPinLaw", name := "text", desc := "([CI)Ljava/lang/String;" } : Jvm.MethodName) method_3_code (2 : Nat) (Option.some (Jvm.ClassFile.FieldType.object "java/lang/String"))).before a0 Z = true := hw _ (List.mem_of_getElem? (i := 5) rfl)
theorem w6 {Z : State} {a0 : Array Value} (hw : ∀ d ∈ tables_1, d.before a0 Z = true) : (Jvm.Cond.classLink "com/example/sober_commit/sobercommit/SeenTextsSlotPinLaw" (25 : Nat) "java/lang/String").before a0 Z = true := hw _ (List.mem_of_getElem? (i := 6) rfl)
theorem w7 {Z : State} {a0 : Array Value} (hw : ∀ d ∈ tables_1, d.before a0 Z = true) : (Jvm.Cond.instantiable "java/lang/String" (4 : Nat)).before a0 Z = true := hw _ (List.mem_of_getElem? (i := 7) rfl)
theorem w8 {Z : State} {a0 : Array Value} (hw : ∀ d ∈ tables_1, d.before a0 Z = true) : (Jvm.Cond.initialized "java/lang/String").before a0 Z = true := hw _ (List.mem_of_getElem? (i := 8) rfl)
theorem w9 {Z : State} {a0 : Array Value} (hw : ∀ d ∈ tables_1, d.before a0 Z = true) : (Jvm.Cond.methodLink "com/example/sober_commit/sobercommit/SeenTextsSlotPinLaw" (27 : Nat) ({ cls := "java/lang/String", name := "<init>", desc := "([C)V" } : Jvm.MethodName)).before a0 Z = true := hw _ (List.mem_of_getElem? (i := 9) rfl)
theorem w10 {Z : State} {a0 : Array Value} (hw : ∀ d ∈ tables_1, d.before a0 Z = true) : (Jvm.Cond.instanceMethod ({ cls := "java/lang/String", name := "<init>", desc := "([C)V" } : Jvm.MethodName)).before a0 Z = true := hw _ (List.mem_of_getElem? (i := 10) rfl)
theorem w11 {Z : State} {a0 : Array Value} (hw : ∀ d ∈ tables_1, d.before a0 Z = true) : (Jvm.Cond.code ({ cls := "java/lang/String", name := "<init>", desc := "([C)V" } : Jvm.MethodName) jdk_42_method_3_code (2 : Nat) (Option.none : Option Jvm.ClassFile.FieldType)).before a0 Z = true := hw _ (List.mem_of_getElem? (i := 11) rfl)
theorem w12 {Z : State} {a0 : Array Value} (hw : ∀ d ∈ tables_1, d.before a0 Z = true) : (Jvm.Cond.methodLink "java/lang/String" (27 : Nat) ({ cls := "java/lang/String", name := "<init>", desc := "([CIILjava/lang/Void;)V" } : Jvm.MethodName)).before a0 Z = true := hw _ (List.mem_of_getElem? (i := 12) rfl)
theorem w13 {Z : State} {a0 : Array Value} (hw : ∀ d ∈ tables_1, d.before a0 Z = true) : (Jvm.Cond.instanceMethod ({ cls := "java/lang/String", name := "<init>", desc := "([CIILjava/lang/Void;)V" } : Jvm.MethodName)).before a0 Z = true := hw _ (List.mem_of_getElem? (i := 13) rfl)
theorem w15 {Z : State} {a0 : Array Value} (hw : ∀ d ∈ tables_1, d.before a0 Z = true) : (Jvm.Cond.code ({ cls := "java/lang/String", name := "<init>", desc := "([CIILjava/lang/Void;)V" } : Jvm.MethodName) jdk_42_method_149_code (6 : Nat) (Option.none : Option Jvm.ClassFile.FieldType)).before a0 Z = true := hw _ (List.mem_of_getElem? (i := 15) rfl)
theorem w16 {Z : State} {a0 : Array Value} (hw : ∀ d ∈ tables_1, d.before a0 Z = true) : (Jvm.Cond.methodLink "java/lang/String" (1 : Nat) ({ cls := "java/lang/Object", name := "<init>", desc := "()V" } : Jvm.MethodName)).before a0 Z = true := hw _ (List.mem_of_getElem? (i := 16) rfl)
theorem w17 {Z : State} {a0 : Array Value} (hw : ∀ d ∈ tables_1, d.before a0 Z = true) : (Jvm.Cond.instanceMethod ({ cls := "java/lang/Object", name := "<init>", desc := "()V" } : Jvm.MethodName)).before a0 Z = true := hw _ (List.mem_of_getElem? (i := 17) rfl)
theorem w18 {Z : State} {a0 : Array Value} (hw : ∀ d ∈ tables_1, d.before a0 Z = true) : (Jvm.Cond.code ({ cls := "java/lang/Object", name := "<init>", desc := "()V" } : Jvm.MethodName) object_method_1_code (1 : Nat) (Option.none : Option Jvm.ClassFile.FieldType)).before a0 Z = true := hw _ (List.mem_of_getElem? (i := 18) rfl)
theorem w19 {Z : State} {a0 : Array Value} (hw : ∀ d ∈ tables_1, d.before a0 Z = true) : (Jvm.Cond.stringLink "java/lang/String" (7 : Nat) "").before a0 Z = true := hw _ (List.mem_of_getElem? (i := 19) rfl)
theorem w20 {Z : State} {a0 : Array Value} (hw : ∀ d ∈ tables_1, d.before a0 Z = true) : (Jvm.Cond.arrayClass Jvm.ClassFile.FieldType.byte).before a0 Z = true := hw _ (List.mem_of_getElem? (i := 20) rfl)
theorem w21 {Z : State} {a0 : Array Value} (hw : ∀ d ∈ tables_1, d.before a0 Z = true) : (Jvm.Cond.laysFinal "java/lang/String" "java/lang/String" "value" "[B").before a0 Z = true := hw _ (List.mem_of_getElem? (i := 21) rfl)
theorem w22 {Z : State} {a0 : Array Value} (hw : ∀ d ∈ tables_1, d.before a0 Z = true) : (Jvm.Cond.laysFinal "java/lang/String" "java/lang/String" "coder" "B").before a0 Z = true := hw _ (List.mem_of_getElem? (i := 22) rfl)
theorem w23 {Z : State} {a0 : Array Value} (hw : ∀ d ∈ tables_1, d.before a0 Z = true) : (Jvm.Cond.soleField "java/lang/String" "value").before a0 Z = true := hw _ (List.mem_of_getElem? (i := 23) rfl)
theorem w24 {Z : State} {a0 : Array Value} (hw : ∀ d ∈ tables_1, d.before a0 Z = true) : (Jvm.Cond.soleField "java/lang/String" "coder").before a0 Z = true := hw _ (List.mem_of_getElem? (i := 24) rfl)
theorem w25 {Z : State} {a0 : Array Value} (hw : ∀ d ∈ tables_1, d.before a0 Z = true) : (Jvm.Cond.fieldLink "java/lang/String" (9 : Nat) "java/lang/String" "value" "[B").before a0 Z = true := hw _ (List.mem_of_getElem? (i := 25) rfl)
theorem w26 {Z : State} {a0 : Array Value} (hw : ∀ d ∈ tables_1, d.before a0 Z = true) : (Jvm.Cond.fieldLink "java/lang/String" (15 : Nat) "java/lang/String" "coder" "B").before a0 Z = true := hw _ (List.mem_of_getElem? (i := 26) rfl)
theorem w27 {Z : State} {a0 : Array Value} (hw : ∀ d ∈ tables_1, d.before a0 Z = true) : (Jvm.Cond.methodLink "com/example/sober_commit/sobercommit/SeenTextsSlotPinLaw" (14 : Nat) ({ cls := "com/example/sober_commit/sobercommit/Dialect$SeenTexts", name := "slot", desc := "(Ljava/lang/String;)I" } : Jvm.MethodName)).before a0 Z = true := hw _ (List.mem_of_getElem? (i := 27) rfl)
theorem w28 {Z : State} {a0 : Array Value} (hw : ∀ d ∈ tables_1, d.before a0 Z = true) : (Jvm.Cond.static ({ cls := "com/example/sober_commit/sobercommit/Dialect$SeenTexts", name := "slot", desc := "(Ljava/lang/String;)I" } : Jvm.MethodName)).before a0 Z = true := hw _ (List.mem_of_getElem? (i := 28) rfl)
theorem w29 {Z : State} {a0 : Array Value} (hw : ∀ d ∈ tables_1, d.before a0 Z = true) : (Jvm.Cond.initialized "com/example/sober_commit/sobercommit/Dialect$SeenTexts").before a0 Z = true := hw _ (List.mem_of_getElem? (i := 29) rfl)
theorem w30 {Z : State} {a0 : Array Value} (hw : ∀ d ∈ tables_1, d.before a0 Z = true) : (Jvm.Cond.code ({ cls := "com/example/sober_commit/sobercommit/Dialect$SeenTexts", name := "slot", desc := "(Ljava/lang/String;)I" } : Jvm.MethodName) prog_9_method_4_code (4 : Nat) (Option.some Jvm.ClassFile.FieldType.int)).before a0 Z = true := hw _ (List.mem_of_getElem? (i := 30) rfl)
theorem w31 {Z : State} {a0 : Array Value} (hw : ∀ d ∈ tables_1, d.before a0 Z = true) : (Jvm.Cond.methodLink "com/example/sober_commit/sobercommit/Dialect$SeenTexts" (23 : Nat) ({ cls := "java/lang/String", name := "length", desc := "()I" } : Jvm.MethodName)).before a0 Z = true := hw _ (List.mem_of_getElem? (i := 31) rfl)
theorem w32 {Z : State} {a0 : Array Value} (hw : ∀ d ∈ tables_1, d.before a0 Z = true) : (Jvm.Cond.declares ({ cls := "java/lang/String", name := "length", desc := "()I" } : Jvm.MethodName)).before a0 Z = true := hw _ (List.mem_of_getElem? (i := 32) rfl)
theorem w33 {Z : State} {a0 : Array Value} (hw : ∀ d ∈ tables_1, d.before a0 Z = true) : (Jvm.Cond.instanceMethod ({ cls := "java/lang/String", name := "length", desc := "()I" } : Jvm.MethodName)).before a0 Z = true := hw _ (List.mem_of_getElem? (i := 33) rfl)
theorem w34 {Z : State} {a0 : Array Value} (hw : ∀ d ∈ tables_1, d.before a0 Z = true) : (Jvm.Cond.selects "java/lang/String" ({ cls := "java/lang/String", name := "length", desc := "()I" } : Jvm.MethodName) ({ cls := "java/lang/String", name := "length", desc := "()I" } : Jvm.MethodName)).before a0 Z = true := hw _ (List.mem_of_getElem? (i := 34) rfl)
theorem w35 {Z : State} {a0 : Array Value} (hw : ∀ d ∈ tables_1, d.before a0 Z = true) : (Jvm.Cond.code ({ cls := "java/lang/String", name := "length", desc := "()I" } : Jvm.MethodName) jdk_42_method_54_code (1 : Nat) (Option.some Jvm.ClassFile.FieldType.int)).before a0 Z = true := hw _ (List.mem_of_getElem? (i := 35) rfl)
theorem w36 {Z : State} {a0 : Array Value} (hw : ∀ d ∈ tables_1, d.before a0 Z = true) : (Jvm.Cond.methodLink "java/lang/String" (335 : Nat) ({ cls := "java/lang/String", name := "coder", desc := "()B" } : Jvm.MethodName)).before a0 Z = true := hw _ (List.mem_of_getElem? (i := 36) rfl)
theorem w37 {Z : State} {a0 : Array Value} (hw : ∀ d ∈ tables_1, d.before a0 Z = true) : (Jvm.Cond.declares ({ cls := "java/lang/String", name := "coder", desc := "()B" } : Jvm.MethodName)).before a0 Z = true := hw _ (List.mem_of_getElem? (i := 37) rfl)
theorem w38 {Z : State} {a0 : Array Value} (hw : ∀ d ∈ tables_1, d.before a0 Z = true) : (Jvm.Cond.instanceMethod ({ cls := "java/lang/String", name := "coder", desc := "()B" } : Jvm.MethodName)).before a0 Z = true := hw _ (List.mem_of_getElem? (i := 38) rfl)
theorem w39 {Z : State} {a0 : Array Value} (hw : ∀ d ∈ tables_1, d.before a0 Z = true) : (Jvm.Cond.selects "java/lang/String" ({ cls := "java/lang/String", name := "coder", desc := "()B" } : Jvm.MethodName) ({ cls := "java/lang/String", name := "coder", desc := "()B" } : Jvm.MethodName)).before a0 Z = true := hw _ (List.mem_of_getElem? (i := 39) rfl)
theorem w40 {Z : State} {a0 : Array Value} (hw : ∀ d ∈ tables_1, d.before a0 Z = true) : (Jvm.Cond.code ({ cls := "java/lang/String", name := "coder", desc := "()B" } : Jvm.MethodName) jdk_42_method_152_code (1 : Nat) (Option.some Jvm.ClassFile.FieldType.byte)).before a0 Z = true := hw _ (List.mem_of_getElem? (i := 40) rfl)
theorem w41 {Z : State} {a0 : Array Value} (hw : ∀ d ∈ tables_1, d.before a0 Z = true) : (Jvm.Cond.fieldLink "java/lang/String" (38 : Nat) "java/lang/String" "COMPACT_STRINGS" "Z").before a0 Z = true := hw _ (List.mem_of_getElem? (i := 41) rfl)
theorem w42 {Z : State} {a0 : Array Value} (hw : ∀ d ∈ tables_1, d.before a0 Z = true) : (Jvm.Cond.constant "com/example/sober_commit/sobercommit/Dialect$SeenTexts" (31 : Nat) (-1640531527 : Int32)).before a0 Z = true := hw _ (List.mem_of_getElem? (i := 42) rfl)
theorem w43 {Z : State} {a0 : Array Value} (hw : ∀ d ∈ tables_1, d.before a0 Z = true) : (Jvm.Cond.constantLong "com/example/sober_commit/sobercommit/SeenTextsSlotPinLaw" (21 : Nat) (2654435769 : Int64)).before a0 Z = true := hw _ (List.mem_of_getElem? (i := 43) rfl)
theorem w44 {Z : State} {a0 : Array Value} (hw : ∀ d ∈ tables_1, d.before a0 Z = true) : (Jvm.Cond.constantLong "com/example/sober_commit/sobercommit/SeenTextsSlotPinLaw" (23 : Nat) (4294967295 : Int64)).before a0 Z = true := hw _ (List.mem_of_getElem? (i := 44) rfl)
theorem w45 {Z : State} {a0 : Array Value} (hw : ∀ d ∈ tables_1, d.before a0 Z = true) : (Jvm.Cond.methodLink "java/lang/String" (177 : Nat) ({ cls := "java/lang/StringUTF16", name := "compress", desc := "([CII)[B" } : Jvm.MethodName)).before a0 Z = true := hw _ (List.mem_of_getElem? (i := 45) rfl)
theorem w46 {Z : State} {a0 : Array Value} (hw : ∀ d ∈ tables_1, d.before a0 Z = true) : (Jvm.Cond.static ({ cls := "java/lang/StringUTF16", name := "compress", desc := "([CII)[B" } : Jvm.MethodName)).before a0 Z = true := hw _ (List.mem_of_getElem? (i := 46) rfl)
theorem w47 {Z : State} {a0 : Array Value} (hw : ∀ d ∈ tables_1, d.before a0 Z = true) : (Jvm.Cond.initialized "java/lang/StringUTF16").before a0 Z = true := hw _ (List.mem_of_getElem? (i := 47) rfl)
theorem w48 {Z : State} {a0 : Array Value} (hw : ∀ d ∈ tables_1, d.before a0 Z = true) : (Jvm.Cond.code ({ cls := "java/lang/StringUTF16", name := "compress", desc := "([CII)[B" } : Jvm.MethodName) jdk_52_method_16_code (6 : Nat) (Option.some (Jvm.ClassFile.FieldType.array Jvm.ClassFile.FieldType.byte))).before a0 Z = true := hw _ (List.mem_of_getElem? (i := 48) rfl)
theorem w49 {Z : State} {a0 : Array Value} (hw : ∀ d ∈ tables_1, d.before a0 Z = true) : (Jvm.Cond.methodLink "java/lang/StringUTF16" (115 : Nat) ({ cls := "java/lang/StringUTF16", name := "compress", desc := "([CI[BII)I" } : Jvm.MethodName)).before a0 Z = true := hw _ (List.mem_of_getElem? (i := 49) rfl)
theorem w50 {Z : State} {a0 : Array Value} (hw : ∀ d ∈ tables_1, d.before a0 Z = true) : (Jvm.Cond.static ({ cls := "java/lang/StringUTF16", name := "compress", desc := "([CI[BII)I" } : Jvm.MethodName)).before a0 Z = true := hw _ (List.mem_of_getElem? (i := 50) rfl)
theorem w51 {Z : State} {a0 : Array Value} (hw : ∀ d ∈ tables_1, d.before a0 Z = true) : (Jvm.Cond.code ({ cls := "java/lang/StringUTF16", name := "compress", desc := "([CI[BII)I" } : Jvm.MethodName) jdk_52_method_21_code (7 : Nat) (Option.some Jvm.ClassFile.FieldType.int)).before a0 Z = true := hw _ (List.mem_of_getElem? (i := 51) rfl)
theorem w52 {Z : State} {a0 : Array Value} (hw : ∀ d ∈ tables_1, d.before a0 Z = true) : (Jvm.Cond.methodLink "java/lang/StringUTF16" (119 : Nat) ({ cls := "java/lang/StringUTF16", name := "toBytes", desc := "([CII)[B" } : Jvm.MethodName)).before a0 Z = true := hw _ (List.mem_of_getElem? (i := 52) rfl)
theorem w53 {Z : State} {a0 : Array Value} (hw : ∀ d ∈ tables_1, d.before a0 Z = true) : (Jvm.Cond.static ({ cls := "java/lang/StringUTF16", name := "toBytes", desc := "([CII)[B" } : Jvm.MethodName)).before a0 Z = true := hw _ (List.mem_of_getElem? (i := 53) rfl)
theorem w54 {Z : State} {a0 : Array Value} (hw : ∀ d ∈ tables_1, d.before a0 Z = true) : (Jvm.Cond.code ({ cls := "java/lang/StringUTF16", name := "toBytes", desc := "([CII)[B" } : Jvm.MethodName) jdk_52_method_14_code (5 : Nat) (Option.some (Jvm.ClassFile.FieldType.array Jvm.ClassFile.FieldType.byte))).before a0 Z = true := hw _ (List.mem_of_getElem? (i := 54) rfl)
theorem w55 {Z : State} {a0 : Array Value} (hw : ∀ d ∈ tables_1, d.before a0 Z = true) : (Jvm.Cond.methodLink "java/lang/StringUTF16" (107 : Nat) ({ cls := "java/lang/StringUTF16", name := "newBytesFor", desc := "(I)[B" } : Jvm.MethodName)).before a0 Z = true := hw _ (List.mem_of_getElem? (i := 55) rfl)
theorem w56 {Z : State} {a0 : Array Value} (hw : ∀ d ∈ tables_1, d.before a0 Z = true) : (Jvm.Cond.static ({ cls := "java/lang/StringUTF16", name := "newBytesFor", desc := "(I)[B" } : Jvm.MethodName)).before a0 Z = true := hw _ (List.mem_of_getElem? (i := 56) rfl)
theorem w57 {Z : State} {a0 : Array Value} (hw : ∀ d ∈ tables_1, d.before a0 Z = true) : (Jvm.Cond.code ({ cls := "java/lang/StringUTF16", name := "newBytesFor", desc := "(I)[B" } : Jvm.MethodName) jdk_52_method_2_code (1 : Nat) (Option.some (Jvm.ClassFile.FieldType.array Jvm.ClassFile.FieldType.byte))).before a0 Z = true := hw _ (List.mem_of_getElem? (i := 57) rfl)
theorem w58 {Z : State} {a0 : Array Value} (hw : ∀ d ∈ tables_1, d.before a0 Z = true) : (Jvm.Cond.methodLink "java/lang/StringUTF16" (11 : Nat) ({ cls := "java/lang/StringUTF16", name := "newBytesLength", desc := "(I)I" } : Jvm.MethodName)).before a0 Z = true := hw _ (List.mem_of_getElem? (i := 58) rfl)
theorem w59 {Z : State} {a0 : Array Value} (hw : ∀ d ∈ tables_1, d.before a0 Z = true) : (Jvm.Cond.static ({ cls := "java/lang/StringUTF16", name := "newBytesLength", desc := "(I)I" } : Jvm.MethodName)).before a0 Z = true := hw _ (List.mem_of_getElem? (i := 59) rfl)
theorem w60 {Z : State} {a0 : Array Value} (hw : ∀ d ∈ tables_1, d.before a0 Z = true) : (Jvm.Cond.code ({ cls := "java/lang/StringUTF16", name := "newBytesLength", desc := "(I)I" } : Jvm.MethodName) jdk_52_method_3_code (1 : Nat) (Option.some Jvm.ClassFile.FieldType.int)).before a0 Z = true := hw _ (List.mem_of_getElem? (i := 60) rfl)
theorem w61 {Z : State} {a0 : Array Value} (hw : ∀ d ∈ tables_1, d.before a0 Z = true) : (Jvm.Cond.constant "java/lang/StringUTF16" (20 : Nat) (1073741823 : Int32)).before a0 Z = true := hw _ (List.mem_of_getElem? (i := 61) rfl)
theorem w62 {Z : State} {a0 : Array Value} (hw : ∀ d ∈ tables_1, d.before a0 Z = true) : (Jvm.Cond.methodLink "java/lang/StringUTF16" (111 : Nat) ({ cls := "java/lang/StringUTF16", name := "putChar", desc := "([BII)V" } : Jvm.MethodName)).before a0 Z = true := hw _ (List.mem_of_getElem? (i := 62) rfl)
theorem w63 {Z : State} {a0 : Array Value} (hw : ∀ d ∈ tables_1, d.before a0 Z = true) : (Jvm.Cond.static ({ cls := "java/lang/StringUTF16", name := "putChar", desc := "([BII)V" } : Jvm.MethodName)).before a0 Z = true := hw _ (List.mem_of_getElem? (i := 63) rfl)
theorem w64 {Z : State} {a0 : Array Value} (hw : ∀ d ∈ tables_1, d.before a0 Z = true) : (Jvm.Cond.code ({ cls := "java/lang/StringUTF16", name := "putChar", desc := "([BII)V" } : Jvm.MethodName) jdk_52_method_4_code (3 : Nat) (Option.none : Option Jvm.ClassFile.FieldType)).before a0 Z = true := hw _ (List.mem_of_getElem? (i := 64) rfl)
theorem w65 {Z : State} {a0 : Array Value} (hw : ∀ d ∈ tables_1, d.before a0 Z = true) : (Jvm.Cond.fieldLink "java/lang/StringUTF16" (44 : Nat) "java/lang/StringUTF16" "$assertionsDisabled" "Z").before a0 Z = true := hw _ (List.mem_of_getElem? (i := 65) rfl)
theorem w66 {Z : State} {a0 : Array Value} (hw : ∀ d ∈ tables_1, d.before a0 Z = true) : (Jvm.Cond.fieldLink "java/lang/StringUTF16" (59 : Nat) "java/lang/StringUTF16" "HI_BYTE_SHIFT" "I").before a0 Z = true := hw _ (List.mem_of_getElem? (i := 66) rfl)
theorem w67 {Z : State} {a0 : Array Value} (hw : ∀ d ∈ tables_1, d.before a0 Z = true) : (Jvm.Cond.fieldLink "java/lang/StringUTF16" (63 : Nat) "java/lang/StringUTF16" "LO_BYTE_SHIFT" "I").before a0 Z = true := hw _ (List.mem_of_getElem? (i := 67) rfl)
theorem w68 {Z : State} {a0 : Array Value} (hw : ∀ d ∈ tables_1, d.before a0 Z = true) : (Jvm.Cond.methodLink "java/lang/StringUTF16" (71 : Nat) ({ cls := "java/lang/StringUTF16", name := "getChar", desc := "([BI)C" } : Jvm.MethodName)).before a0 Z = true := hw _ (List.mem_of_getElem? (i := 68) rfl)
theorem w69 {Z : State} {a0 : Array Value} (hw : ∀ d ∈ tables_1, d.before a0 Z = true) : (Jvm.Cond.static ({ cls := "java/lang/StringUTF16", name := "getChar", desc := "([BI)C" } : Jvm.MethodName)).before a0 Z = true := hw _ (List.mem_of_getElem? (i := 69) rfl)
theorem w70 {Z : State} {a0 : Array Value} (hw : ∀ d ∈ tables_1, d.before a0 Z = true) : (Jvm.Cond.code ({ cls := "java/lang/StringUTF16", name := "getChar", desc := "([BI)C" } : Jvm.MethodName) jdk_52_method_5_code (2 : Nat) (Option.some Jvm.ClassFile.FieldType.char)).before a0 Z = true := hw _ (List.mem_of_getElem? (i := 70) rfl)
theorem w71 {Z : State} {a0 : Array Value} (hw : ∀ d ∈ tables_1, d.before a0 Z = true) : (Jvm.Cond.methodLink "java/lang/String" (47 : Nat) ({ cls := "java/lang/StringUTF16", name := "coderFromArrayLen", desc := "([BI)B" } : Jvm.MethodName)).before a0 Z = true := hw _ (List.mem_of_getElem? (i := 71) rfl)
theorem w72 {Z : State} {a0 : Array Value} (hw : ∀ d ∈ tables_1, d.before a0 Z = true) : (Jvm.Cond.static ({ cls := "java/lang/StringUTF16", name := "coderFromArrayLen", desc := "([BI)B" } : Jvm.MethodName)).before a0 Z = true := hw _ (List.mem_of_getElem? (i := 72) rfl)
theorem w73 {Z : State} {a0 : Array Value} (hw : ∀ d ∈ tables_1, d.before a0 Z = true) : (Jvm.Cond.code ({ cls := "java/lang/StringUTF16", name := "coderFromArrayLen", desc := "([BI)B" } : Jvm.MethodName) jdk_52_method_15_code (2 : Nat) (Option.some Jvm.ClassFile.FieldType.byte)).before a0 Z = true := hw _ (List.mem_of_getElem? (i := 73) rfl)
theorem w74 {Z : State} {a0 : Array Value} (hw : ∀ d ∈ tables_1, d.before a0 Z = true) : (Jvm.Cond.methodLink "com/example/sober_commit/sobercommit/Dialect$SeenTexts" (27 : Nat) ({ cls := "java/lang/String", name := "charAt", desc := "(I)C" } : Jvm.MethodName)).before a0 Z = true := hw _ (List.mem_of_getElem? (i := 74) rfl)
theorem w75 {Z : State} {a0 : Array Value} (hw : ∀ d ∈ tables_1, d.before a0 Z = true) : (Jvm.Cond.declares ({ cls := "java/lang/String", name := "charAt", desc := "(I)C" } : Jvm.MethodName)).before a0 Z = true := hw _ (List.mem_of_getElem? (i := 75) rfl)
theorem w76 {Z : State} {a0 : Array Value} (hw : ∀ d ∈ tables_1, d.before a0 Z = true) : (Jvm.Cond.instanceMethod ({ cls := "java/lang/String", name := "charAt", desc := "(I)C" } : Jvm.MethodName)).before a0 Z = true := hw _ (List.mem_of_getElem? (i := 76) rfl)
theorem w77 {Z : State} {a0 : Array Value} (hw : ∀ d ∈ tables_1, d.before a0 Z = true) : (Jvm.Cond.selects "java/lang/String" ({ cls := "java/lang/String", name := "charAt", desc := "(I)C" } : Jvm.MethodName) ({ cls := "java/lang/String", name := "charAt", desc := "(I)C" } : Jvm.MethodName)).before a0 Z = true := hw _ (List.mem_of_getElem? (i := 77) rfl)
theorem w78 {Z : State} {a0 : Array Value} (hw : ∀ d ∈ tables_1, d.before a0 Z = true) : (Jvm.Cond.code ({ cls := "java/lang/String", name := "charAt", desc := "(I)C" } : Jvm.MethodName) jdk_42_method_56_code (2 : Nat) (Option.some Jvm.ClassFile.FieldType.char)).before a0 Z = true := hw _ (List.mem_of_getElem? (i := 78) rfl)
theorem w79 {Z : State} {a0 : Array Value} (hw : ∀ d ∈ tables_1, d.before a0 Z = true) : (Jvm.Cond.methodLink "java/lang/String" (492 : Nat) ({ cls := "java/lang/String", name := "isLatin1", desc := "()Z" } : Jvm.MethodName)).before a0 Z = true := hw _ (List.mem_of_getElem? (i := 79) rfl)
theorem w80 {Z : State} {a0 : Array Value} (hw : ∀ d ∈ tables_1, d.before a0 Z = true) : (Jvm.Cond.declares ({ cls := "java/lang/String", name := "isLatin1", desc := "()Z" } : Jvm.MethodName)).before a0 Z = true := hw _ (List.mem_of_getElem? (i := 80) rfl)
theorem w81 {Z : State} {a0 : Array Value} (hw : ∀ d ∈ tables_1, d.before a0 Z = true) : (Jvm.Cond.instanceMethod ({ cls := "java/lang/String", name := "isLatin1", desc := "()Z" } : Jvm.MethodName)).before a0 Z = true := hw _ (List.mem_of_getElem? (i := 81) rfl)
theorem w82 {Z : State} {a0 : Array Value} (hw : ∀ d ∈ tables_1, d.before a0 Z = true) : (Jvm.Cond.selects "java/lang/String" ({ cls := "java/lang/String", name := "isLatin1", desc := "()Z" } : Jvm.MethodName) ({ cls := "java/lang/String", name := "isLatin1", desc := "()Z" } : Jvm.MethodName)).before a0 Z = true := hw _ (List.mem_of_getElem? (i := 82) rfl)
theorem w83 {Z : State} {a0 : Array Value} (hw : ∀ d ∈ tables_1, d.before a0 Z = true) : (Jvm.Cond.code ({ cls := "java/lang/String", name := "isLatin1", desc := "()Z" } : Jvm.MethodName) jdk_42_method_154_code (1 : Nat) (Option.some Jvm.ClassFile.FieldType.boolean)).before a0 Z = true := hw _ (List.mem_of_getElem? (i := 83) rfl)
theorem w84 {Z : State} {a0 : Array Value} (hw : ∀ d ∈ tables_1, d.before a0 Z = true) : (Jvm.Cond.methodLink "java/lang/String" (498 : Nat) ({ cls := "java/lang/StringUTF16", name := "charAt", desc := "([BI)C" } : Jvm.MethodName)).before a0 Z = true := hw _ (List.mem_of_getElem? (i := 84) rfl)
theorem w85 {Z : State} {a0 : Array Value} (hw : ∀ d ∈ tables_1, d.before a0 Z = true) : (Jvm.Cond.static ({ cls := "java/lang/StringUTF16", name := "charAt", desc := "([BI)C" } : Jvm.MethodName)).before a0 Z = true := hw _ (List.mem_of_getElem? (i := 85) rfl)
theorem w86 {Z : State} {a0 : Array Value} (hw : ∀ d ∈ tables_1, d.before a0 Z = true) : (Jvm.Cond.code ({ cls := "java/lang/StringUTF16", name := "charAt", desc := "([BI)C" } : Jvm.MethodName) jdk_52_method_83_code (2 : Nat) (Option.some Jvm.ClassFile.FieldType.char)).before a0 Z = true := hw _ (List.mem_of_getElem? (i := 86) rfl)
theorem w87 {Z : State} {a0 : Array Value} (hw : ∀ d ∈ tables_1, d.before a0 Z = true) : (Jvm.Cond.methodLink "java/lang/StringUTF16" (67 : Nat) ({ cls := "java/lang/StringUTF16", name := "checkIndex", desc := "(I[B)V" } : Jvm.MethodName)).before a0 Z = true := hw _ (List.mem_of_getElem? (i := 87) rfl)
theorem w88 {Z : State} {a0 : Array Value} (hw : ∀ d ∈ tables_1, d.before a0 Z = true) : (Jvm.Cond.static ({ cls := "java/lang/StringUTF16", name := "checkIndex", desc := "(I[B)V" } : Jvm.MethodName)).before a0 Z = true := hw _ (List.mem_of_getElem? (i := 88) rfl)
theorem w89 {Z : State} {a0 : Array Value} (hw : ∀ d ∈ tables_1, d.before a0 Z = true) : (Jvm.Cond.code ({ cls := "java/lang/StringUTF16", name := "checkIndex", desc := "(I[B)V" } : Jvm.MethodName) jdk_52_method_91_code (2 : Nat) (Option.none : Option Jvm.ClassFile.FieldType)).before a0 Z = true := hw _ (List.mem_of_getElem? (i := 89) rfl)
theorem w90 {Z : State} {a0 : Array Value} (hw : ∀ d ∈ tables_1, d.before a0 Z = true) : (Jvm.Cond.methodLink "java/lang/StringUTF16" (48 : Nat) ({ cls := "java/lang/StringUTF16", name := "length", desc := "([B)I" } : Jvm.MethodName)).before a0 Z = true := hw _ (List.mem_of_getElem? (i := 90) rfl)
theorem w91 {Z : State} {a0 : Array Value} (hw : ∀ d ∈ tables_1, d.before a0 Z = true) : (Jvm.Cond.static ({ cls := "java/lang/StringUTF16", name := "length", desc := "([B)I" } : Jvm.MethodName)).before a0 Z = true := hw _ (List.mem_of_getElem? (i := 91) rfl)
theorem w92 {Z : State} {a0 : Array Value} (hw : ∀ d ∈ tables_1, d.before a0 Z = true) : (Jvm.Cond.code ({ cls := "java/lang/StringUTF16", name := "length", desc := "([B)I" } : Jvm.MethodName) jdk_52_method_6_code (1 : Nat) (Option.some Jvm.ClassFile.FieldType.int)).before a0 Z = true := hw _ (List.mem_of_getElem? (i := 92) rfl)
theorem w93 {Z : State} {a0 : Array Value} (hw : ∀ d ∈ tables_1, d.before a0 Z = true) : (Jvm.Cond.methodLink "java/lang/StringUTF16" (414 : Nat) ({ cls := "java/lang/String", name := "checkIndex", desc := "(II)V" } : Jvm.MethodName)).before a0 Z = true := hw _ (List.mem_of_getElem? (i := 93) rfl)
theorem w94 {Z : State} {a0 : Array Value} (hw : ∀ d ∈ tables_1, d.before a0 Z = true) : (Jvm.Cond.static ({ cls := "java/lang/String", name := "checkIndex", desc := "(II)V" } : Jvm.MethodName)).before a0 Z = true := hw _ (List.mem_of_getElem? (i := 94) rfl)
theorem w95 {Z : State} {a0 : Array Value} (hw : ∀ d ∈ tables_1, d.before a0 Z = true) : (Jvm.Cond.code ({ cls := "java/lang/String", name := "checkIndex", desc := "(II)V" } : Jvm.MethodName) jdk_42_method_155_code (2 : Nat) (Option.none : Option Jvm.ClassFile.FieldType)).before a0 Z = true := hw _ (List.mem_of_getElem? (i := 95) rfl)
theorem w96 {Z : State} {a0 : Array Value} (hw : ∀ d ∈ tables_1, d.before a0 Z = true) : (Jvm.Cond.fieldLink "java/lang/String" (1053 : Nat) "jdk/internal/util/Preconditions" "SIOOBE_FORMATTER" "Ljava/util/function/BiFunction;").before a0 Z = true := hw _ (List.mem_of_getElem? (i := 96) rfl)
theorem w97 {Z : State} {a0 : Array Value} (hw : ∀ d ∈ tables_1, d.before a0 Z = true) : (Jvm.Cond.initialized "jdk/internal/util/Preconditions").before a0 Z = true := hw _ (List.mem_of_getElem? (i := 97) rfl)
theorem w98 {Z : State} {a0 : Array Value} (hw : ∀ d ∈ tables_1, d.before a0 Z = true) : (Jvm.Cond.methodLink "java/lang/String" (1059 : Nat) ({ cls := "jdk/internal/util/Preconditions", name := "checkIndex", desc := "(IILjava/util/function/BiFunction;)I" } : Jvm.MethodName)).before a0 Z = true := hw _ (List.mem_of_getElem? (i := 98) rfl)
theorem w99 {Z : State} {a0 : Array Value} (hw : ∀ d ∈ tables_1, d.before a0 Z = true) : (Jvm.Cond.static ({ cls := "jdk/internal/util/Preconditions", name := "checkIndex", desc := "(IILjava/util/function/BiFunction;)I" } : Jvm.MethodName)).before a0 Z = true := hw _ (List.mem_of_getElem? (i := 99) rfl)
theorem w100 {Z : State} {a0 : Array Value} (hw : ∀ d ∈ tables_1, d.before a0 Z = true) : (Jvm.Cond.code ({ cls := "jdk/internal/util/Preconditions", name := "checkIndex", desc := "(IILjava/util/function/BiFunction;)I" } : Jvm.MethodName) jdk_41_method_11_code (3 : Nat) (Option.some Jvm.ClassFile.FieldType.int)).before a0 Z = true := hw _ (List.mem_of_getElem? (i := 100) rfl)
theorem w101 {Z : State} {a0 : Array Value} (hw : ∀ d ∈ tables_1, d.before a0 Z = true) : (Jvm.Cond.constant "com/example/sober_commit/sobercommit/SeenTextsSlotPinLaw" (20 : Nat) (923521 : Int32)).before a0 Z = true := hw _ (List.mem_of_getElem? (i := 101) rfl)
theorem w102 {Z : State} {a0 : Array Value} (hw : ∀ d ∈ tables_1, d.before a0 Z = true) : (Jvm.Cond.methodLink "java/lang/String" (495 : Nat) ({ cls := "java/lang/StringLatin1", name := "charAt", desc := "([BI)C" } : Jvm.MethodName)).before a0 Z = true := hw _ (List.mem_of_getElem? (i := 102) rfl)
theorem w103 {Z : State} {a0 : Array Value} (hw : ∀ d ∈ tables_1, d.before a0 Z = true) : (Jvm.Cond.static ({ cls := "java/lang/StringLatin1", name := "charAt", desc := "([BI)C" } : Jvm.MethodName)).before a0 Z = true := hw _ (List.mem_of_getElem? (i := 103) rfl)
theorem w104 {Z : State} {a0 : Array Value} (hw : ∀ d ∈ tables_1, d.before a0 Z = true) : (Jvm.Cond.initialized "java/lang/StringLatin1").before a0 Z = true := hw _ (List.mem_of_getElem? (i := 104) rfl)
theorem w105 {Z : State} {a0 : Array Value} (hw : ∀ d ∈ tables_1, d.before a0 Z = true) : (Jvm.Cond.code ({ cls := "java/lang/StringLatin1", name := "charAt", desc := "([BI)C" } : Jvm.MethodName) jdk_43_method_2_code (2 : Nat) (Option.some Jvm.ClassFile.FieldType.char)).before a0 Z = true := hw _ (List.mem_of_getElem? (i := 105) rfl)
theorem w106 {Z : State} {a0 : Array Value} (hw : ∀ d ∈ tables_1, d.before a0 Z = true) : (Jvm.Cond.methodLink "java/lang/StringLatin1" (9 : Nat) ({ cls := "java/lang/String", name := "checkIndex", desc := "(II)V" } : Jvm.MethodName)).before a0 Z = true := hw _ (List.mem_of_getElem? (i := 106) rfl)
theorem pd0 : parseMethodDescriptor "(I)I" = some ⟨[.int], some .int⟩ := by decide +kernel
theorem pd1 : parseMethodDescriptor "(I)[B" = some ⟨[.int], some (.array .byte)⟩ := by decide +kernel
theorem pd2 : parseMethodDescriptor "([BII)V" = some ⟨[(.array .byte), .int, .int], none⟩ := by decide +kernel
theorem pd3 : parseMethodDescriptor "([CI[BII)I" = some ⟨[(.array .char), .int, (.array .byte), .int, .int], some .int⟩ := by decide +kernel
theorem pd4 : parseMethodDescriptor "([CII)[B" = some ⟨[(.array .char), .int, .int], some (.array .byte)⟩ := by decide +kernel
theorem pd5 : parseMethodDescriptor "([BI)C" = some ⟨[(.array .byte), .int], some .char⟩ := by decide +kernel
theorem pd6 : parseMethodDescriptor "([BI)B" = some ⟨[(.array .byte), .int], some .byte⟩ := by decide +kernel
theorem pd7 : parseMethodDescriptor "([CIILjava/lang/Void;)V" = some ⟨[(.array .char), .int, .int, (.object "java/lang/Void")], none⟩ := by decide +kernel
theorem pd8 : parseMethodDescriptor "()B" = some ⟨[], some .byte⟩ := by decide +kernel
theorem pd9 : parseMethodDescriptor "(IILjava/util/function/BiFunction;)I" = some ⟨[.int, .int, (.object "java/util/function/BiFunction")], some .int⟩ := by decide +kernel
theorem pd10 : parseMethodDescriptor "([B)I" = some ⟨[(.array .byte)], some .int⟩ := by decide +kernel
theorem pd11 : parseMethodDescriptor "(II)V" = some ⟨[.int, .int], none⟩ := by decide +kernel
theorem pd12 : parseMethodDescriptor "(I[B)V" = some ⟨[.int, (.array .byte)], none⟩ := by decide +kernel
theorem pd13 : parseMethodDescriptor "()Z" = some ⟨[], some .boolean⟩ := by decide +kernel
theorem pd14 : parseMethodDescriptor "([C)V" = some ⟨[(.array .char)], none⟩ := by decide +kernel
theorem pd15 : parseMethodDescriptor "()I" = some ⟨[], some .int⟩ := by decide +kernel
theorem pd16 : parseMethodDescriptor "(I)C" = some ⟨[.int], some .char⟩ := by decide +kernel
theorem pd17 : parseMethodDescriptor "([CI)Ljava/lang/String;" = some ⟨[(.array .char), .int], some (.object "java/lang/String")⟩ := by decide +kernel
theorem pd18 : parseMethodDescriptor "(Ljava/lang/String;)I" = some ⟨[(.object "java/lang/String")], some .int⟩ := by decide +kernel
theorem dcmp5_0 : decode jdk_52_method_21_code 0 = .ok (.iconst 0, 1) := by decide +kernel
theorem dcmp5_1 : decode jdk_52_method_21_code 1 = .ok (.istore 5, 2) := by decide +kernel
theorem dcmp5_3 : decode jdk_52_method_21_code 3 = .ok (.iload 5, 2) := by decide +kernel
theorem dcmp5_5 : decode jdk_52_method_21_code 5 = .ok (.iload 4, 2) := by decide +kernel
theorem dcmp5_7 : decode jdk_52_method_21_code 7 = .ok (.if_icmp .ge 37, 3) := by decide +kernel
theorem dcmp5_10 : decode jdk_52_method_21_code 10 = .ok (.aload_n 0, 1) := by decide +kernel
theorem dcmp5_11 : decode jdk_52_method_21_code 11 = .ok (.iload_n 1, 1) := by decide +kernel
theorem dcmp5_12 : decode jdk_52_method_21_code 12 = .ok (.caload, 1) := by decide +kernel
theorem dcmp5_13 : decode jdk_52_method_21_code 13 = .ok (.istore 6, 2) := by decide +kernel
theorem dcmp5_15 : decode jdk_52_method_21_code 15 = .ok (.iload 6, 2) := by decide +kernel
theorem dcmp5_17 : decode jdk_52_method_21_code 17 = .ok (.sipush 255, 3) := by decide +kernel
theorem dcmp5_20 : decode jdk_52_method_21_code 20 = .ok (.if_icmp .le 6, 3) := by decide +kernel
theorem dcmp5_23 : decode jdk_52_method_21_code 23 = .ok (.iload 5, 2) := by decide +kernel
theorem dcmp5_25 : decode jdk_52_method_21_code 25 = .ok (.ireturn, 1) := by decide +kernel
theorem dcmp5_26 : decode jdk_52_method_21_code 26 = .ok (.aload_n 2, 1) := by decide +kernel
theorem dcmp5_27 : decode jdk_52_method_21_code 27 = .ok (.iload_n 3, 1) := by decide +kernel
theorem dcmp5_28 : decode jdk_52_method_21_code 28 = .ok (.iload 6, 2) := by decide +kernel
theorem dcmp5_30 : decode jdk_52_method_21_code 30 = .ok (.i2b, 1) := by decide +kernel
theorem dcmp5_31 : decode jdk_52_method_21_code 31 = .ok (.bastore, 1) := by decide +kernel
theorem dcmp5_32 : decode jdk_52_method_21_code 32 = .ok (.iinc 1 1, 3) := by decide +kernel
theorem dcmp5_35 : decode jdk_52_method_21_code 35 = .ok (.iinc 3 1, 3) := by decide +kernel
theorem dcmp5_38 : decode jdk_52_method_21_code 38 = .ok (.iinc 5 1, 3) := by decide +kernel
theorem dcmp5_41 : decode jdk_52_method_21_code 41 = .ok (.goto (-38), 3) := by decide +kernel
theorem dcmp5_44 : decode jdk_52_method_21_code 44 = .ok (.iload 4, 2) := by decide +kernel
theorem dcmp5_46 : decode jdk_52_method_21_code 46 = .ok (.ireturn, 1) := by decide +kernel
abbrev bcmp5 : wkB := (⟨"java/lang/StringUTF16", "compress", "([CI[BII)I"⟩, jdk_52_method_21_code, 7, (some .int))
theorem dcodL_0 : decode jdk_52_method_15_code 0 = .ok (.iload_n 1, 1) := by decide +kernel
theorem dcodL_1 : decode jdk_52_method_15_code 1 = .ok (.aload_n 0, 1) := by decide +kernel
theorem dcodL_2 : decode jdk_52_method_15_code 2 = .ok (.arraylength, 1) := by decide +kernel
theorem dcodL_3 : decode jdk_52_method_15_code 3 = .ok (.isub, 1) := by decide +kernel
theorem dcodL_4 : decode jdk_52_method_15_code 4 = .ok (.bipush 31, 2) := by decide +kernel
theorem dcodL_6 : decode jdk_52_method_15_code 6 = .ok (.iushr, 1) := by decide +kernel
theorem dcodL_7 : decode jdk_52_method_15_code 7 = .ok (.i2b, 1) := by decide +kernel
theorem dcodL_8 : decode jdk_52_method_15_code 8 = .ok (.ireturn, 1) := by decide +kernel
abbrev bcodL : wkB := (⟨"java/lang/StringUTF16", "coderFromArrayLen", "([BI)B"⟩, jdk_52_method_15_code, 2, (some .byte))
theorem dnbl_0 : decode jdk_52_method_3_code 0 = .ok (.iload_n 0, 1) := by decide +kernel
theorem dnbl_1 : decode jdk_52_method_3_code 1 = .ok (.ifCond .ge 11, 3) := by decide +kernel
theorem dnbl_12 : decode jdk_52_method_3_code 12 = .ok (.iload_n 0, 1) := by decide +kernel
theorem dnbl_13 : decode jdk_52_method_3_code 13 = .ok (.ldc 20, 2) := by decide +kernel
theorem dnbl_15 : decode jdk_52_method_3_code 15 = .ok (.if_icmp .lt 40, 3) := by decide +kernel
theorem dnbl_55 : decode jdk_52_method_3_code 55 = .ok (.iload_n 0, 1) := by decide +kernel
theorem dnbl_56 : decode jdk_52_method_3_code 56 = .ok (.iconst 1, 1) := by decide +kernel
theorem dnbl_57 : decode jdk_52_method_3_code 57 = .ok (.ishl, 1) := by decide +kernel
theorem dnbl_58 : decode jdk_52_method_3_code 58 = .ok (.ireturn, 1) := by decide +kernel
abbrev bnbl : wkB := (⟨"java/lang/StringUTF16", "newBytesLength", "(I)I"⟩, jdk_52_method_3_code, 1, (some .int))
theorem dnbf_0 : decode jdk_52_method_2_code 0 = .ok (.iload_n 0, 1) := by decide +kernel
theorem dnbf_1 : decode jdk_52_method_2_code 1 = .ok (.invokestatic 11, 3) := by decide +kernel
theorem dnbf_4 : decode jdk_52_method_2_code 4 = .ok (.newarray .byte, 2) := by decide +kernel
theorem dnbf_6 : decode jdk_52_method_2_code 6 = .ok (.areturn, 1) := by decide +kernel
abbrev bnbf : wkB := (⟨"java/lang/StringUTF16", "newBytesFor", "(I)[B"⟩, jdk_52_method_2_code, 1, (some (.array .byte)))
theorem dulen_0 : decode jdk_52_method_6_code 0 = .ok (.aload_n 0, 1) := by decide +kernel
theorem dulen_1 : decode jdk_52_method_6_code 1 = .ok (.arraylength, 1) := by decide +kernel
theorem dulen_2 : decode jdk_52_method_6_code 2 = .ok (.iconst 1, 1) := by decide +kernel
theorem dulen_3 : decode jdk_52_method_6_code 3 = .ok (.ishr, 1) := by decide +kernel
theorem dulen_4 : decode jdk_52_method_6_code 4 = .ok (.ireturn, 1) := by decide +kernel
abbrev bulen : wkB := (⟨"java/lang/StringUTF16", "length", "([B)I"⟩, jdk_52_method_6_code, 1, (some .int))
theorem dputC_0 : decode jdk_52_method_4_code 0 = .ok (.getstatic 44, 3) := by decide +kernel
theorem dputC_3 : decode jdk_52_method_4_code 3 = .ok (.ifCond .ne 25, 3) := by decide +kernel
theorem dputC_28 : decode jdk_52_method_4_code 28 = .ok (.iload_n 1, 1) := by decide +kernel
theorem dputC_29 : decode jdk_52_method_4_code 29 = .ok (.iconst 1, 1) := by decide +kernel
theorem dputC_30 : decode jdk_52_method_4_code 30 = .ok (.ishl, 1) := by decide +kernel
theorem dputC_31 : decode jdk_52_method_4_code 31 = .ok (.istore_n 1, 1) := by decide +kernel
theorem dputC_32 : decode jdk_52_method_4_code 32 = .ok (.aload_n 0, 1) := by decide +kernel
theorem dputC_33 : decode jdk_52_method_4_code 33 = .ok (.iload_n 1, 1) := by decide +kernel
theorem dputC_34 : decode jdk_52_method_4_code 34 = .ok (.iinc 1 1, 3) := by decide +kernel
theorem dputC_37 : decode jdk_52_method_4_code 37 = .ok (.iload_n 2, 1) := by decide +kernel
theorem dputC_38 : decode jdk_52_method_4_code 38 = .ok (.getstatic 59, 3) := by decide +kernel
theorem dputC_41 : decode jdk_52_method_4_code 41 = .ok (.ishr, 1) := by decide +kernel
theorem dputC_42 : decode jdk_52_method_4_code 42 = .ok (.i2b, 1) := by decide +kernel
theorem dputC_43 : decode jdk_52_method_4_code 43 = .ok (.bastore, 1) := by decide +kernel
theorem dputC_44 : decode jdk_52_method_4_code 44 = .ok (.aload_n 0, 1) := by decide +kernel
theorem dputC_45 : decode jdk_52_method_4_code 45 = .ok (.iload_n 1, 1) := by decide +kernel
theorem dputC_46 : decode jdk_52_method_4_code 46 = .ok (.iload_n 2, 1) := by decide +kernel
theorem dputC_47 : decode jdk_52_method_4_code 47 = .ok (.getstatic 63, 3) := by decide +kernel
theorem dputC_50 : decode jdk_52_method_4_code 50 = .ok (.ishr, 1) := by decide +kernel
theorem dputC_51 : decode jdk_52_method_4_code 51 = .ok (.i2b, 1) := by decide +kernel
theorem dputC_52 : decode jdk_52_method_4_code 52 = .ok (.bastore, 1) := by decide +kernel
theorem dputC_53 : decode jdk_52_method_4_code 53 = .ok (.return_, 1) := by decide +kernel
abbrev bputC : wkB := (⟨"java/lang/StringUTF16", "putChar", "([BII)V"⟩, jdk_52_method_4_code, 3, none)
theorem dgetC_0 : decode jdk_52_method_5_code 0 = .ok (.getstatic 44, 3) := by decide +kernel
theorem dgetC_3 : decode jdk_52_method_5_code 3 = .ok (.ifCond .ne 25, 3) := by decide +kernel
theorem dgetC_28 : decode jdk_52_method_5_code 28 = .ok (.iload_n 1, 1) := by decide +kernel
theorem dgetC_29 : decode jdk_52_method_5_code 29 = .ok (.iconst 1, 1) := by decide +kernel
theorem dgetC_30 : decode jdk_52_method_5_code 30 = .ok (.ishl, 1) := by decide +kernel
theorem dgetC_31 : decode jdk_52_method_5_code 31 = .ok (.istore_n 1, 1) := by decide +kernel
theorem dgetC_32 : decode jdk_52_method_5_code 32 = .ok (.aload_n 0, 1) := by decide +kernel
theorem dgetC_33 : decode jdk_52_method_5_code 33 = .ok (.iload_n 1, 1) := by decide +kernel
theorem dgetC_34 : decode jdk_52_method_5_code 34 = .ok (.iinc 1 1, 3) := by decide +kernel
theorem dgetC_37 : decode jdk_52_method_5_code 37 = .ok (.baload, 1) := by decide +kernel
theorem dgetC_38 : decode jdk_52_method_5_code 38 = .ok (.sipush 255, 3) := by decide +kernel
theorem dgetC_41 : decode jdk_52_method_5_code 41 = .ok (.iand, 1) := by decide +kernel
theorem dgetC_42 : decode jdk_52_method_5_code 42 = .ok (.getstatic 59, 3) := by decide +kernel
theorem dgetC_45 : decode jdk_52_method_5_code 45 = .ok (.ishl, 1) := by decide +kernel
theorem dgetC_46 : decode jdk_52_method_5_code 46 = .ok (.aload_n 0, 1) := by decide +kernel
theorem dgetC_47 : decode jdk_52_method_5_code 47 = .ok (.iload_n 1, 1) := by decide +kernel
theorem dgetC_48 : decode jdk_52_method_5_code 48 = .ok (.baload, 1) := by decide +kernel
theorem dgetC_49 : decode jdk_52_method_5_code 49 = .ok (.sipush 255, 3) := by decide +kernel
theorem dgetC_52 : decode jdk_52_method_5_code 52 = .ok (.iand, 1) := by decide +kernel
theorem dgetC_53 : decode jdk_52_method_5_code 53 = .ok (.getstatic 63, 3) := by decide +kernel
theorem dgetC_56 : decode jdk_52_method_5_code 56 = .ok (.ishl, 1) := by decide +kernel
theorem dgetC_57 : decode jdk_52_method_5_code 57 = .ok (.ior, 1) := by decide +kernel
theorem dgetC_58 : decode jdk_52_method_5_code 58 = .ok (.i2c, 1) := by decide +kernel
theorem dgetC_59 : decode jdk_52_method_5_code 59 = .ok (.ireturn, 1) := by decide +kernel
abbrev bgetC : wkB := (⟨"java/lang/StringUTF16", "getChar", "([BI)C"⟩, jdk_52_method_5_code, 2, (some .char))
theorem dtoBy_0 : decode jdk_52_method_14_code 0 = .ok (.iload_n 2, 1) := by decide +kernel
theorem dtoBy_1 : decode jdk_52_method_14_code 1 = .ok (.invokestatic 107, 3) := by decide +kernel
theorem dtoBy_4 : decode jdk_52_method_14_code 4 = .ok (.astore_n 3, 1) := by decide +kernel
theorem dtoBy_5 : decode jdk_52_method_14_code 5 = .ok (.iconst 0, 1) := by decide +kernel
theorem dtoBy_6 : decode jdk_52_method_14_code 6 = .ok (.istore 4, 2) := by decide +kernel
theorem dtoBy_8 : decode jdk_52_method_14_code 8 = .ok (.iload 4, 2) := by decide +kernel
theorem dtoBy_10 : decode jdk_52_method_14_code 10 = .ok (.iload_n 2, 1) := by decide +kernel
theorem dtoBy_11 : decode jdk_52_method_14_code 11 = .ok (.if_icmp .ge 21, 3) := by decide +kernel
theorem dtoBy_14 : decode jdk_52_method_14_code 14 = .ok (.aload_n 3, 1) := by decide +kernel
theorem dtoBy_15 : decode jdk_52_method_14_code 15 = .ok (.iload 4, 2) := by decide +kernel
theorem dtoBy_17 : decode jdk_52_method_14_code 17 = .ok (.aload_n 0, 1) := by decide +kernel
theorem dtoBy_18 : decode jdk_52_method_14_code 18 = .ok (.iload_n 1, 1) := by decide +kernel
theorem dtoBy_19 : decode jdk_52_method_14_code 19 = .ok (.caload, 1) := by decide +kernel
theorem dtoBy_20 : decode jdk_52_method_14_code 20 = .ok (.invokestatic 111, 3) := by decide +kernel
theorem dtoBy_23 : decode jdk_52_method_14_code 23 = .ok (.iinc 1 1, 3) := by decide +kernel
theorem dtoBy_26 : decode jdk_52_method_14_code 26 = .ok (.iinc 4 1, 3) := by decide +kernel
theorem dtoBy_29 : decode jdk_52_method_14_code 29 = .ok (.goto (-21), 3) := by decide +kernel
theorem dtoBy_32 : decode jdk_52_method_14_code 32 = .ok (.aload_n 3, 1) := by decide +kernel
theorem dtoBy_33 : decode jdk_52_method_14_code 33 = .ok (.areturn, 1) := by decide +kernel
abbrev btoBy : wkB := (⟨"java/lang/StringUTF16", "toBytes", "([CII)[B"⟩, jdk_52_method_14_code, 5, (some (.array .byte)))
theorem dcmp3_0 : decode jdk_52_method_16_code 0 = .ok (.iload_n 2, 1) := by decide +kernel
theorem dcmp3_1 : decode jdk_52_method_16_code 1 = .ok (.newarray .byte, 2) := by decide +kernel
theorem dcmp3_3 : decode jdk_52_method_16_code 3 = .ok (.astore_n 3, 1) := by decide +kernel
theorem dcmp3_4 : decode jdk_52_method_16_code 4 = .ok (.aload_n 0, 1) := by decide +kernel
theorem dcmp3_5 : decode jdk_52_method_16_code 5 = .ok (.iload_n 1, 1) := by decide +kernel
theorem dcmp3_6 : decode jdk_52_method_16_code 6 = .ok (.aload_n 3, 1) := by decide +kernel
theorem dcmp3_7 : decode jdk_52_method_16_code 7 = .ok (.iconst 0, 1) := by decide +kernel
theorem dcmp3_8 : decode jdk_52_method_16_code 8 = .ok (.iload_n 2, 1) := by decide +kernel
theorem dcmp3_9 : decode jdk_52_method_16_code 9 = .ok (.invokestatic 115, 3) := by decide +kernel
theorem dcmp3_12 : decode jdk_52_method_16_code 12 = .ok (.istore 4, 2) := by decide +kernel
theorem dcmp3_14 : decode jdk_52_method_16_code 14 = .ok (.iload 4, 2) := by decide +kernel
theorem dcmp3_16 : decode jdk_52_method_16_code 16 = .ok (.iload_n 2, 1) := by decide +kernel
theorem dcmp3_17 : decode jdk_52_method_16_code 17 = .ok (.if_icmp .eq 40, 3) := by decide +kernel
theorem dcmp3_20 : decode jdk_52_method_16_code 20 = .ok (.aload_n 0, 1) := by decide +kernel
theorem dcmp3_21 : decode jdk_52_method_16_code 21 = .ok (.iload_n 1, 1) := by decide +kernel
theorem dcmp3_22 : decode jdk_52_method_16_code 22 = .ok (.iload_n 2, 1) := by decide +kernel
theorem dcmp3_23 : decode jdk_52_method_16_code 23 = .ok (.invokestatic 119, 3) := by decide +kernel
theorem dcmp3_26 : decode jdk_52_method_16_code 26 = .ok (.astore 5, 2) := by decide +kernel
theorem dcmp3_28 : decode jdk_52_method_16_code 28 = .ok (.aload 5, 2) := by decide +kernel
theorem dcmp3_30 : decode jdk_52_method_16_code 30 = .ok (.iload 4, 2) := by decide +kernel
theorem dcmp3_32 : decode jdk_52_method_16_code 32 = .ok (.invokestatic 71, 3) := by decide +kernel
theorem dcmp3_35 : decode jdk_52_method_16_code 35 = .ok (.sipush 255, 3) := by decide +kernel
theorem dcmp3_38 : decode jdk_52_method_16_code 38 = .ok (.if_icmp .gt 16, 3) := by decide +kernel
theorem dcmp3_54 : decode jdk_52_method_16_code 54 = .ok (.aload 5, 2) := by decide +kernel
theorem dcmp3_56 : decode jdk_52_method_16_code 56 = .ok (.areturn, 1) := by decide +kernel
theorem dcmp3_57 : decode jdk_52_method_16_code 57 = .ok (.aload_n 3, 1) := by decide +kernel
theorem dcmp3_58 : decode jdk_52_method_16_code 58 = .ok (.areturn, 1) := by decide +kernel
abbrev bcmp3 : wkB := (⟨"java/lang/StringUTF16", "compress", "([CII)[B"⟩, jdk_52_method_16_code, 6, (some (.array .byte)))
theorem dinit4_0 : decode jdk_42_method_149_code 0 = .ok (.aload_n 0, 1) := by decide +kernel
theorem dinit4_1 : decode jdk_42_method_149_code 1 = .ok (.invokespecial 1, 3) := by decide +kernel
theorem dinit4_4 : decode jdk_42_method_149_code 4 = .ok (.iload_n 3, 1) := by decide +kernel
theorem dinit4_5 : decode jdk_42_method_149_code 5 = .ok (.ifCond .ne 22, 3) := by decide +kernel
theorem dinit4_8 : decode jdk_42_method_149_code 8 = .ok (.aload_n 0, 1) := by decide +kernel
theorem dinit4_9 : decode jdk_42_method_149_code 9 = .ok (.ldc 7, 2) := by decide +kernel
theorem dinit4_11 : decode jdk_42_method_149_code 11 = .ok (.getfield 9, 3) := by decide +kernel
theorem dinit4_14 : decode jdk_42_method_149_code 14 = .ok (.putfield 9, 3) := by decide +kernel
theorem dinit4_17 : decode jdk_42_method_149_code 17 = .ok (.aload_n 0, 1) := by decide +kernel
theorem dinit4_18 : decode jdk_42_method_149_code 18 = .ok (.ldc 7, 2) := by decide +kernel
theorem dinit4_20 : decode jdk_42_method_149_code 20 = .ok (.getfield 15, 3) := by decide +kernel
theorem dinit4_23 : decode jdk_42_method_149_code 23 = .ok (.putfield 15, 3) := by decide +kernel
theorem dinit4_26 : decode jdk_42_method_149_code 26 = .ok (.return_, 1) := by decide +kernel
theorem dinit4_27 : decode jdk_42_method_149_code 27 = .ok (.getstatic 38, 3) := by decide +kernel
theorem dinit4_30 : decode jdk_42_method_149_code 30 = .ok (.ifCond .eq 28, 3) := by decide +kernel
theorem dinit4_33 : decode jdk_42_method_149_code 33 = .ok (.aload_n 1, 1) := by decide +kernel
theorem dinit4_34 : decode jdk_42_method_149_code 34 = .ok (.iload_n 2, 1) := by decide +kernel
theorem dinit4_35 : decode jdk_42_method_149_code 35 = .ok (.iload_n 3, 1) := by decide +kernel
theorem dinit4_36 : decode jdk_42_method_149_code 36 = .ok (.invokestatic 177, 3) := by decide +kernel
theorem dinit4_39 : decode jdk_42_method_149_code 39 = .ok (.astore 5, 2) := by decide +kernel
theorem dinit4_41 : decode jdk_42_method_149_code 41 = .ok (.aload_n 0, 1) := by decide +kernel
theorem dinit4_42 : decode jdk_42_method_149_code 42 = .ok (.aload 5, 2) := by decide +kernel
theorem dinit4_44 : decode jdk_42_method_149_code 44 = .ok (.iload_n 3, 1) := by decide +kernel
theorem dinit4_45 : decode jdk_42_method_149_code 45 = .ok (.invokestatic 47, 3) := by decide +kernel
theorem dinit4_48 : decode jdk_42_method_149_code 48 = .ok (.putfield 15, 3) := by decide +kernel
theorem dinit4_51 : decode jdk_42_method_149_code 51 = .ok (.aload_n 0, 1) := by decide +kernel
theorem dinit4_52 : decode jdk_42_method_149_code 52 = .ok (.aload 5, 2) := by decide +kernel
theorem dinit4_54 : decode jdk_42_method_149_code 54 = .ok (.putfield 9, 3) := by decide +kernel
theorem dinit4_57 : decode jdk_42_method_149_code 57 = .ok (.return_, 1) := by decide +kernel
abbrev binit4 : wkB := (⟨"java/lang/String", "<init>", "([CIILjava/lang/Void;)V"⟩, jdk_42_method_149_code, 6, none)
theorem dinit1_0 : decode jdk_42_method_3_code 0 = .ok (.aload_n 0, 1) := by decide +kernel
theorem dinit1_1 : decode jdk_42_method_3_code 1 = .ok (.aload_n 1, 1) := by decide +kernel
theorem dinit1_2 : decode jdk_42_method_3_code 2 = .ok (.iconst 0, 1) := by decide +kernel
theorem dinit1_3 : decode jdk_42_method_3_code 3 = .ok (.aload_n 1, 1) := by decide +kernel
theorem dinit1_4 : decode jdk_42_method_3_code 4 = .ok (.arraylength, 1) := by decide +kernel
theorem dinit1_5 : decode jdk_42_method_3_code 5 = .ok (.aconst_null, 1) := by decide +kernel
theorem dinit1_6 : decode jdk_42_method_3_code 6 = .ok (.invokespecial 27, 3) := by decide +kernel
theorem dinit1_9 : decode jdk_42_method_3_code 9 = .ok (.return_, 1) := by decide +kernel
abbrev binit1 : wkB := (⟨"java/lang/String", "<init>", "([C)V"⟩, jdk_42_method_3_code, 2, none)
theorem dcoder_0 : decode jdk_42_method_152_code 0 = .ok (.getstatic 38, 3) := by decide +kernel
theorem dcoder_3 : decode jdk_42_method_152_code 3 = .ok (.ifCond .eq 10, 3) := by decide +kernel
theorem dcoder_6 : decode jdk_42_method_152_code 6 = .ok (.aload_n 0, 1) := by decide +kernel
theorem dcoder_7 : decode jdk_42_method_152_code 7 = .ok (.getfield 15, 3) := by decide +kernel
theorem dcoder_10 : decode jdk_42_method_152_code 10 = .ok (.goto 4, 3) := by decide +kernel
theorem dcoder_14 : decode jdk_42_method_152_code 14 = .ok (.ireturn, 1) := by decide +kernel
abbrev bcoder : wkB := (⟨"java/lang/String", "coder", "()B"⟩, jdk_42_method_152_code, 1, (some .byte))
theorem disLat_0 : decode jdk_42_method_154_code 0 = .ok (.getstatic 38, 3) := by decide +kernel
theorem disLat_3 : decode jdk_42_method_154_code 3 = .ok (.ifCond .eq 14, 3) := by decide +kernel
theorem disLat_6 : decode jdk_42_method_154_code 6 = .ok (.aload_n 0, 1) := by decide +kernel
theorem disLat_7 : decode jdk_42_method_154_code 7 = .ok (.getfield 15, 3) := by decide +kernel
theorem disLat_10 : decode jdk_42_method_154_code 10 = .ok (.ifCond .ne 7, 3) := by decide +kernel
theorem disLat_13 : decode jdk_42_method_154_code 13 = .ok (.iconst 1, 1) := by decide +kernel
theorem disLat_14 : decode jdk_42_method_154_code 14 = .ok (.goto 4, 3) := by decide +kernel
theorem disLat_17 : decode jdk_42_method_154_code 17 = .ok (.iconst 0, 1) := by decide +kernel
theorem disLat_18 : decode jdk_42_method_154_code 18 = .ok (.ireturn, 1) := by decide +kernel
abbrev bisLat : wkB := (⟨"java/lang/String", "isLatin1", "()Z"⟩, jdk_42_method_154_code, 1, (some .boolean))
theorem dlen_0 : decode jdk_42_method_54_code 0 = .ok (.aload_n 0, 1) := by decide +kernel
theorem dlen_1 : decode jdk_42_method_54_code 1 = .ok (.getfield 9, 3) := by decide +kernel
theorem dlen_4 : decode jdk_42_method_54_code 4 = .ok (.arraylength, 1) := by decide +kernel
theorem dlen_5 : decode jdk_42_method_54_code 5 = .ok (.aload_n 0, 1) := by decide +kernel
theorem dlen_6 : decode jdk_42_method_54_code 6 = .ok (.invokevirtual 335, 3) := by decide +kernel
theorem dlen_9 : decode jdk_42_method_54_code 9 = .ok (.ishr, 1) := by decide +kernel
theorem dlen_10 : decode jdk_42_method_54_code 10 = .ok (.ireturn, 1) := by decide +kernel
abbrev blen : wkB := (⟨"java/lang/String", "length", "()I"⟩, jdk_42_method_54_code, 1, (some .int))
theorem dpchk_0 : decode jdk_41_method_11_code 0 = .ok (.iload_n 0, 1) := by decide +kernel
theorem dpchk_1 : decode jdk_41_method_11_code 1 = .ok (.ifCond .lt 8, 3) := by decide +kernel
theorem dpchk_4 : decode jdk_41_method_11_code 4 = .ok (.iload_n 0, 1) := by decide +kernel
theorem dpchk_5 : decode jdk_41_method_11_code 5 = .ok (.iload_n 1, 1) := by decide +kernel
theorem dpchk_6 : decode jdk_41_method_11_code 6 = .ok (.if_icmp .lt 10, 3) := by decide +kernel
theorem dpchk_16 : decode jdk_41_method_11_code 16 = .ok (.iload_n 0, 1) := by decide +kernel
theorem dpchk_17 : decode jdk_41_method_11_code 17 = .ok (.ireturn, 1) := by decide +kernel
abbrev bpchk : wkB := (⟨"jdk/internal/util/Preconditions", "checkIndex", "(IILjava/util/function/BiFunction;)I"⟩, jdk_41_method_11_code, 3, (some .int))
theorem dschk_0 : decode jdk_42_method_155_code 0 = .ok (.iload_n 0, 1) := by decide +kernel
theorem dschk_1 : decode jdk_42_method_155_code 1 = .ok (.iload_n 1, 1) := by decide +kernel
theorem dschk_2 : decode jdk_42_method_155_code 2 = .ok (.getstatic 1053, 3) := by decide +kernel
theorem dschk_5 : decode jdk_42_method_155_code 5 = .ok (.invokestatic 1059, 3) := by decide +kernel
theorem dschk_8 : decode jdk_42_method_155_code 8 = .ok (.pop, 1) := by decide +kernel
theorem dschk_9 : decode jdk_42_method_155_code 9 = .ok (.return_, 1) := by decide +kernel
abbrev bschk : wkB := (⟨"java/lang/String", "checkIndex", "(II)V"⟩, jdk_42_method_155_code, 2, none)
theorem duchk_0 : decode jdk_52_method_91_code 0 = .ok (.iload_n 0, 1) := by decide +kernel
theorem duchk_1 : decode jdk_52_method_91_code 1 = .ok (.aload_n 1, 1) := by decide +kernel
theorem duchk_2 : decode jdk_52_method_91_code 2 = .ok (.invokestatic 48, 3) := by decide +kernel
theorem duchk_5 : decode jdk_52_method_91_code 5 = .ok (.invokestatic 414, 3) := by decide +kernel
theorem duchk_8 : decode jdk_52_method_91_code 8 = .ok (.return_, 1) := by decide +kernel
abbrev buchk : wkB := (⟨"java/lang/StringUTF16", "checkIndex", "(I[B)V"⟩, jdk_52_method_91_code, 2, none)
theorem dlch_0 : decode jdk_43_method_2_code 0 = .ok (.iload_n 1, 1) := by decide +kernel
theorem dlch_1 : decode jdk_43_method_2_code 1 = .ok (.aload_n 0, 1) := by decide +kernel
theorem dlch_2 : decode jdk_43_method_2_code 2 = .ok (.arraylength, 1) := by decide +kernel
theorem dlch_3 : decode jdk_43_method_2_code 3 = .ok (.invokestatic 9, 3) := by decide +kernel
theorem dlch_6 : decode jdk_43_method_2_code 6 = .ok (.aload_n 0, 1) := by decide +kernel
theorem dlch_7 : decode jdk_43_method_2_code 7 = .ok (.iload_n 1, 1) := by decide +kernel
theorem dlch_8 : decode jdk_43_method_2_code 8 = .ok (.baload, 1) := by decide +kernel
theorem dlch_9 : decode jdk_43_method_2_code 9 = .ok (.sipush 255, 3) := by decide +kernel
theorem dlch_12 : decode jdk_43_method_2_code 12 = .ok (.iand, 1) := by decide +kernel
theorem dlch_13 : decode jdk_43_method_2_code 13 = .ok (.i2c, 1) := by decide +kernel
theorem dlch_14 : decode jdk_43_method_2_code 14 = .ok (.ireturn, 1) := by decide +kernel
abbrev blch : wkB := (⟨"java/lang/StringLatin1", "charAt", "([BI)C"⟩, jdk_43_method_2_code, 2, (some .char))
theorem duch_0 : decode jdk_52_method_83_code 0 = .ok (.iload_n 1, 1) := by decide +kernel
theorem duch_1 : decode jdk_52_method_83_code 1 = .ok (.aload_n 0, 1) := by decide +kernel
theorem duch_2 : decode jdk_52_method_83_code 2 = .ok (.invokestatic 67, 3) := by decide +kernel
theorem duch_5 : decode jdk_52_method_83_code 5 = .ok (.aload_n 0, 1) := by decide +kernel
theorem duch_6 : decode jdk_52_method_83_code 6 = .ok (.iload_n 1, 1) := by decide +kernel
theorem duch_7 : decode jdk_52_method_83_code 7 = .ok (.invokestatic 71, 3) := by decide +kernel
theorem duch_10 : decode jdk_52_method_83_code 10 = .ok (.ireturn, 1) := by decide +kernel
abbrev buch : wkB := (⟨"java/lang/StringUTF16", "charAt", "([BI)C"⟩, jdk_52_method_83_code, 2, (some .char))
theorem dchAt_0 : decode jdk_42_method_56_code 0 = .ok (.aload_n 0, 1) := by decide +kernel
theorem dchAt_1 : decode jdk_42_method_56_code 1 = .ok (.invokevirtual 492, 3) := by decide +kernel
theorem dchAt_4 : decode jdk_42_method_56_code 4 = .ok (.ifCond .eq 12, 3) := by decide +kernel
theorem dchAt_7 : decode jdk_42_method_56_code 7 = .ok (.aload_n 0, 1) := by decide +kernel
theorem dchAt_8 : decode jdk_42_method_56_code 8 = .ok (.getfield 9, 3) := by decide +kernel
theorem dchAt_11 : decode jdk_42_method_56_code 11 = .ok (.iload_n 1, 1) := by decide +kernel
theorem dchAt_12 : decode jdk_42_method_56_code 12 = .ok (.invokestatic 495, 3) := by decide +kernel
theorem dchAt_15 : decode jdk_42_method_56_code 15 = .ok (.ireturn, 1) := by decide +kernel
theorem dchAt_16 : decode jdk_42_method_56_code 16 = .ok (.aload_n 0, 1) := by decide +kernel
theorem dchAt_17 : decode jdk_42_method_56_code 17 = .ok (.getfield 9, 3) := by decide +kernel
theorem dchAt_20 : decode jdk_42_method_56_code 20 = .ok (.iload_n 1, 1) := by decide +kernel
theorem dchAt_21 : decode jdk_42_method_56_code 21 = .ok (.invokestatic 498, 3) := by decide +kernel
theorem dchAt_24 : decode jdk_42_method_56_code 24 = .ok (.ireturn, 1) := by decide +kernel
abbrev bchAt : wkB := (⟨"java/lang/String", "charAt", "(I)C"⟩, jdk_42_method_56_code, 2, (some .char))
theorem dtext_0 : decode method_3_code 0 = .ok (.iload_n 1, 1) := by decide +kernel
theorem dtext_1 : decode method_3_code 1 = .ok (.ifCond .ne 14, 3) := by decide +kernel
theorem dtext_4 : decode method_3_code 4 = .ok (.new 25, 3) := by decide +kernel
theorem dtext_7 : decode method_3_code 7 = .ok (.dup, 1) := by decide +kernel
theorem dtext_8 : decode method_3_code 8 = .ok (.iconst 0, 1) := by decide +kernel
theorem dtext_9 : decode method_3_code 9 = .ok (.newarray .char, 2) := by decide +kernel
theorem dtext_11 : decode method_3_code 11 = .ok (.invokespecial 27, 3) := by decide +kernel
theorem dtext_14 : decode method_3_code 14 = .ok (.areturn, 1) := by decide +kernel
theorem dtext_15 : decode method_3_code 15 = .ok (.iload_n 1, 1) := by decide +kernel
theorem dtext_16 : decode method_3_code 16 = .ok (.iconst 1, 1) := by decide +kernel
theorem dtext_17 : decode method_3_code 17 = .ok (.if_icmp .ne 20, 3) := by decide +kernel
theorem dtext_20 : decode method_3_code 20 = .ok (.new 25, 3) := by decide +kernel
theorem dtext_23 : decode method_3_code 23 = .ok (.dup, 1) := by decide +kernel
theorem dtext_24 : decode method_3_code 24 = .ok (.iconst 1, 1) := by decide +kernel
theorem dtext_25 : decode method_3_code 25 = .ok (.newarray .char, 2) := by decide +kernel
theorem dtext_27 : decode method_3_code 27 = .ok (.dup, 1) := by decide +kernel
theorem dtext_28 : decode method_3_code 28 = .ok (.iconst 0, 1) := by decide +kernel
theorem dtext_29 : decode method_3_code 29 = .ok (.aload_n 0, 1) := by decide +kernel
theorem dtext_30 : decode method_3_code 30 = .ok (.iconst 0, 1) := by decide +kernel
theorem dtext_31 : decode method_3_code 31 = .ok (.caload, 1) := by decide +kernel
theorem dtext_32 : decode method_3_code 32 = .ok (.castore, 1) := by decide +kernel
theorem dtext_33 : decode method_3_code 33 = .ok (.invokespecial 27, 3) := by decide +kernel
theorem dtext_36 : decode method_3_code 36 = .ok (.areturn, 1) := by decide +kernel
theorem dtext_37 : decode method_3_code 37 = .ok (.iload_n 1, 1) := by decide +kernel
theorem dtext_38 : decode method_3_code 38 = .ok (.iconst 2, 1) := by decide +kernel
theorem dtext_39 : decode method_3_code 39 = .ok (.if_icmp .ne 26, 3) := by decide +kernel
theorem dtext_42 : decode method_3_code 42 = .ok (.new 25, 3) := by decide +kernel
theorem dtext_45 : decode method_3_code 45 = .ok (.dup, 1) := by decide +kernel
theorem dtext_46 : decode method_3_code 46 = .ok (.iconst 2, 1) := by decide +kernel
theorem dtext_47 : decode method_3_code 47 = .ok (.newarray .char, 2) := by decide +kernel
theorem dtext_49 : decode method_3_code 49 = .ok (.dup, 1) := by decide +kernel
theorem dtext_50 : decode method_3_code 50 = .ok (.iconst 0, 1) := by decide +kernel
theorem dtext_51 : decode method_3_code 51 = .ok (.aload_n 0, 1) := by decide +kernel
theorem dtext_52 : decode method_3_code 52 = .ok (.iconst 0, 1) := by decide +kernel
theorem dtext_53 : decode method_3_code 53 = .ok (.caload, 1) := by decide +kernel
theorem dtext_54 : decode method_3_code 54 = .ok (.castore, 1) := by decide +kernel
theorem dtext_55 : decode method_3_code 55 = .ok (.dup, 1) := by decide +kernel
theorem dtext_56 : decode method_3_code 56 = .ok (.iconst 1, 1) := by decide +kernel
theorem dtext_57 : decode method_3_code 57 = .ok (.aload_n 0, 1) := by decide +kernel
theorem dtext_58 : decode method_3_code 58 = .ok (.iconst 1, 1) := by decide +kernel
theorem dtext_59 : decode method_3_code 59 = .ok (.caload, 1) := by decide +kernel
theorem dtext_60 : decode method_3_code 60 = .ok (.castore, 1) := by decide +kernel
theorem dtext_61 : decode method_3_code 61 = .ok (.invokespecial 27, 3) := by decide +kernel
theorem dtext_64 : decode method_3_code 64 = .ok (.areturn, 1) := by decide +kernel
theorem dtext_65 : decode method_3_code 65 = .ok (.iload_n 1, 1) := by decide +kernel
theorem dtext_66 : decode method_3_code 66 = .ok (.iconst 3, 1) := by decide +kernel
theorem dtext_67 : decode method_3_code 67 = .ok (.if_icmp .ne 32, 3) := by decide +kernel
theorem dtext_70 : decode method_3_code 70 = .ok (.new 25, 3) := by decide +kernel
theorem dtext_73 : decode method_3_code 73 = .ok (.dup, 1) := by decide +kernel
theorem dtext_74 : decode method_3_code 74 = .ok (.iconst 3, 1) := by decide +kernel
theorem dtext_75 : decode method_3_code 75 = .ok (.newarray .char, 2) := by decide +kernel
theorem dtext_77 : decode method_3_code 77 = .ok (.dup, 1) := by decide +kernel
theorem dtext_78 : decode method_3_code 78 = .ok (.iconst 0, 1) := by decide +kernel
theorem dtext_79 : decode method_3_code 79 = .ok (.aload_n 0, 1) := by decide +kernel
theorem dtext_80 : decode method_3_code 80 = .ok (.iconst 0, 1) := by decide +kernel
theorem dtext_81 : decode method_3_code 81 = .ok (.caload, 1) := by decide +kernel
theorem dtext_82 : decode method_3_code 82 = .ok (.castore, 1) := by decide +kernel
theorem dtext_83 : decode method_3_code 83 = .ok (.dup, 1) := by decide +kernel
theorem dtext_84 : decode method_3_code 84 = .ok (.iconst 1, 1) := by decide +kernel
theorem dtext_85 : decode method_3_code 85 = .ok (.aload_n 0, 1) := by decide +kernel
theorem dtext_86 : decode method_3_code 86 = .ok (.iconst 1, 1) := by decide +kernel
theorem dtext_87 : decode method_3_code 87 = .ok (.caload, 1) := by decide +kernel
theorem dtext_88 : decode method_3_code 88 = .ok (.castore, 1) := by decide +kernel
theorem dtext_89 : decode method_3_code 89 = .ok (.dup, 1) := by decide +kernel
theorem dtext_90 : decode method_3_code 90 = .ok (.iconst 2, 1) := by decide +kernel
theorem dtext_91 : decode method_3_code 91 = .ok (.aload_n 0, 1) := by decide +kernel
theorem dtext_92 : decode method_3_code 92 = .ok (.iconst 2, 1) := by decide +kernel
theorem dtext_93 : decode method_3_code 93 = .ok (.caload, 1) := by decide +kernel
theorem dtext_94 : decode method_3_code 94 = .ok (.castore, 1) := by decide +kernel
theorem dtext_95 : decode method_3_code 95 = .ok (.invokespecial 27, 3) := by decide +kernel
theorem dtext_98 : decode method_3_code 98 = .ok (.areturn, 1) := by decide +kernel
theorem dtext_99 : decode method_3_code 99 = .ok (.iload_n 1, 1) := by decide +kernel
theorem dtext_100 : decode method_3_code 100 = .ok (.iconst 4, 1) := by decide +kernel
theorem dtext_101 : decode method_3_code 101 = .ok (.if_icmp .ne 38, 3) := by decide +kernel
theorem dtext_104 : decode method_3_code 104 = .ok (.new 25, 3) := by decide +kernel
theorem dtext_107 : decode method_3_code 107 = .ok (.dup, 1) := by decide +kernel
theorem dtext_108 : decode method_3_code 108 = .ok (.iconst 4, 1) := by decide +kernel
theorem dtext_109 : decode method_3_code 109 = .ok (.newarray .char, 2) := by decide +kernel
theorem dtext_111 : decode method_3_code 111 = .ok (.dup, 1) := by decide +kernel
theorem dtext_112 : decode method_3_code 112 = .ok (.iconst 0, 1) := by decide +kernel
theorem dtext_113 : decode method_3_code 113 = .ok (.aload_n 0, 1) := by decide +kernel
theorem dtext_114 : decode method_3_code 114 = .ok (.iconst 0, 1) := by decide +kernel
theorem dtext_115 : decode method_3_code 115 = .ok (.caload, 1) := by decide +kernel
theorem dtext_116 : decode method_3_code 116 = .ok (.castore, 1) := by decide +kernel
theorem dtext_117 : decode method_3_code 117 = .ok (.dup, 1) := by decide +kernel
theorem dtext_118 : decode method_3_code 118 = .ok (.iconst 1, 1) := by decide +kernel
theorem dtext_119 : decode method_3_code 119 = .ok (.aload_n 0, 1) := by decide +kernel
theorem dtext_120 : decode method_3_code 120 = .ok (.iconst 1, 1) := by decide +kernel
theorem dtext_121 : decode method_3_code 121 = .ok (.caload, 1) := by decide +kernel
theorem dtext_122 : decode method_3_code 122 = .ok (.castore, 1) := by decide +kernel
theorem dtext_123 : decode method_3_code 123 = .ok (.dup, 1) := by decide +kernel
theorem dtext_124 : decode method_3_code 124 = .ok (.iconst 2, 1) := by decide +kernel
theorem dtext_125 : decode method_3_code 125 = .ok (.aload_n 0, 1) := by decide +kernel
theorem dtext_126 : decode method_3_code 126 = .ok (.iconst 2, 1) := by decide +kernel
theorem dtext_127 : decode method_3_code 127 = .ok (.caload, 1) := by decide +kernel
theorem dtext_128 : decode method_3_code 128 = .ok (.castore, 1) := by decide +kernel
theorem dtext_129 : decode method_3_code 129 = .ok (.dup, 1) := by decide +kernel
theorem dtext_130 : decode method_3_code 130 = .ok (.iconst 3, 1) := by decide +kernel
theorem dtext_131 : decode method_3_code 131 = .ok (.aload_n 0, 1) := by decide +kernel
theorem dtext_132 : decode method_3_code 132 = .ok (.iconst 3, 1) := by decide +kernel
theorem dtext_133 : decode method_3_code 133 = .ok (.caload, 1) := by decide +kernel
theorem dtext_134 : decode method_3_code 134 = .ok (.castore, 1) := by decide +kernel
theorem dtext_135 : decode method_3_code 135 = .ok (.invokespecial 27, 3) := by decide +kernel
theorem dtext_138 : decode method_3_code 138 = .ok (.areturn, 1) := by decide +kernel
theorem dtext_139 : decode method_3_code 139 = .ok (.iload_n 1, 1) := by decide +kernel
theorem dtext_140 : decode method_3_code 140 = .ok (.iconst 5, 1) := by decide +kernel
theorem dtext_141 : decode method_3_code 141 = .ok (.if_icmp .ne 44, 3) := by decide +kernel
theorem dtext_144 : decode method_3_code 144 = .ok (.new 25, 3) := by decide +kernel
theorem dtext_147 : decode method_3_code 147 = .ok (.dup, 1) := by decide +kernel
theorem dtext_148 : decode method_3_code 148 = .ok (.iconst 5, 1) := by decide +kernel
theorem dtext_149 : decode method_3_code 149 = .ok (.newarray .char, 2) := by decide +kernel
theorem dtext_151 : decode method_3_code 151 = .ok (.dup, 1) := by decide +kernel
theorem dtext_152 : decode method_3_code 152 = .ok (.iconst 0, 1) := by decide +kernel
theorem dtext_153 : decode method_3_code 153 = .ok (.aload_n 0, 1) := by decide +kernel
theorem dtext_154 : decode method_3_code 154 = .ok (.iconst 0, 1) := by decide +kernel
theorem dtext_155 : decode method_3_code 155 = .ok (.caload, 1) := by decide +kernel
theorem dtext_156 : decode method_3_code 156 = .ok (.castore, 1) := by decide +kernel
theorem dtext_157 : decode method_3_code 157 = .ok (.dup, 1) := by decide +kernel
theorem dtext_158 : decode method_3_code 158 = .ok (.iconst 1, 1) := by decide +kernel
theorem dtext_159 : decode method_3_code 159 = .ok (.aload_n 0, 1) := by decide +kernel
theorem dtext_160 : decode method_3_code 160 = .ok (.iconst 1, 1) := by decide +kernel
theorem dtext_161 : decode method_3_code 161 = .ok (.caload, 1) := by decide +kernel
theorem dtext_162 : decode method_3_code 162 = .ok (.castore, 1) := by decide +kernel
theorem dtext_163 : decode method_3_code 163 = .ok (.dup, 1) := by decide +kernel
theorem dtext_164 : decode method_3_code 164 = .ok (.iconst 2, 1) := by decide +kernel
theorem dtext_165 : decode method_3_code 165 = .ok (.aload_n 0, 1) := by decide +kernel
theorem dtext_166 : decode method_3_code 166 = .ok (.iconst 2, 1) := by decide +kernel
theorem dtext_167 : decode method_3_code 167 = .ok (.caload, 1) := by decide +kernel
theorem dtext_168 : decode method_3_code 168 = .ok (.castore, 1) := by decide +kernel
theorem dtext_169 : decode method_3_code 169 = .ok (.dup, 1) := by decide +kernel
theorem dtext_170 : decode method_3_code 170 = .ok (.iconst 3, 1) := by decide +kernel
theorem dtext_171 : decode method_3_code 171 = .ok (.aload_n 0, 1) := by decide +kernel
theorem dtext_172 : decode method_3_code 172 = .ok (.iconst 3, 1) := by decide +kernel
theorem dtext_173 : decode method_3_code 173 = .ok (.caload, 1) := by decide +kernel
theorem dtext_174 : decode method_3_code 174 = .ok (.castore, 1) := by decide +kernel
theorem dtext_175 : decode method_3_code 175 = .ok (.dup, 1) := by decide +kernel
theorem dtext_176 : decode method_3_code 176 = .ok (.iconst 4, 1) := by decide +kernel
theorem dtext_177 : decode method_3_code 177 = .ok (.aload_n 0, 1) := by decide +kernel
theorem dtext_178 : decode method_3_code 178 = .ok (.iconst 4, 1) := by decide +kernel
theorem dtext_179 : decode method_3_code 179 = .ok (.caload, 1) := by decide +kernel
theorem dtext_180 : decode method_3_code 180 = .ok (.castore, 1) := by decide +kernel
theorem dtext_181 : decode method_3_code 181 = .ok (.invokespecial 27, 3) := by decide +kernel
theorem dtext_184 : decode method_3_code 184 = .ok (.areturn, 1) := by decide +kernel
theorem dtext_185 : decode method_3_code 185 = .ok (.iload_n 1, 1) := by decide +kernel
theorem dtext_186 : decode method_3_code 186 = .ok (.bipush 6, 2) := by decide +kernel
theorem dtext_188 : decode method_3_code 188 = .ok (.if_icmp .ne 51, 3) := by decide +kernel
theorem dtext_191 : decode method_3_code 191 = .ok (.new 25, 3) := by decide +kernel
theorem dtext_194 : decode method_3_code 194 = .ok (.dup, 1) := by decide +kernel
theorem dtext_195 : decode method_3_code 195 = .ok (.bipush 6, 2) := by decide +kernel
theorem dtext_197 : decode method_3_code 197 = .ok (.newarray .char, 2) := by decide +kernel
theorem dtext_199 : decode method_3_code 199 = .ok (.dup, 1) := by decide +kernel
theorem dtext_200 : decode method_3_code 200 = .ok (.iconst 0, 1) := by decide +kernel
theorem dtext_201 : decode method_3_code 201 = .ok (.aload_n 0, 1) := by decide +kernel
theorem dtext_202 : decode method_3_code 202 = .ok (.iconst 0, 1) := by decide +kernel
theorem dtext_203 : decode method_3_code 203 = .ok (.caload, 1) := by decide +kernel
theorem dtext_204 : decode method_3_code 204 = .ok (.castore, 1) := by decide +kernel
theorem dtext_205 : decode method_3_code 205 = .ok (.dup, 1) := by decide +kernel
theorem dtext_206 : decode method_3_code 206 = .ok (.iconst 1, 1) := by decide +kernel
theorem dtext_207 : decode method_3_code 207 = .ok (.aload_n 0, 1) := by decide +kernel
theorem dtext_208 : decode method_3_code 208 = .ok (.iconst 1, 1) := by decide +kernel
theorem dtext_209 : decode method_3_code 209 = .ok (.caload, 1) := by decide +kernel
theorem dtext_210 : decode method_3_code 210 = .ok (.castore, 1) := by decide +kernel
theorem dtext_211 : decode method_3_code 211 = .ok (.dup, 1) := by decide +kernel
theorem dtext_212 : decode method_3_code 212 = .ok (.iconst 2, 1) := by decide +kernel
theorem dtext_213 : decode method_3_code 213 = .ok (.aload_n 0, 1) := by decide +kernel
theorem dtext_214 : decode method_3_code 214 = .ok (.iconst 2, 1) := by decide +kernel
theorem dtext_215 : decode method_3_code 215 = .ok (.caload, 1) := by decide +kernel
theorem dtext_216 : decode method_3_code 216 = .ok (.castore, 1) := by decide +kernel
theorem dtext_217 : decode method_3_code 217 = .ok (.dup, 1) := by decide +kernel
theorem dtext_218 : decode method_3_code 218 = .ok (.iconst 3, 1) := by decide +kernel
theorem dtext_219 : decode method_3_code 219 = .ok (.aload_n 0, 1) := by decide +kernel
theorem dtext_220 : decode method_3_code 220 = .ok (.iconst 3, 1) := by decide +kernel
theorem dtext_221 : decode method_3_code 221 = .ok (.caload, 1) := by decide +kernel
theorem dtext_222 : decode method_3_code 222 = .ok (.castore, 1) := by decide +kernel
theorem dtext_223 : decode method_3_code 223 = .ok (.dup, 1) := by decide +kernel
theorem dtext_224 : decode method_3_code 224 = .ok (.iconst 4, 1) := by decide +kernel
theorem dtext_225 : decode method_3_code 225 = .ok (.aload_n 0, 1) := by decide +kernel
theorem dtext_226 : decode method_3_code 226 = .ok (.iconst 4, 1) := by decide +kernel
theorem dtext_227 : decode method_3_code 227 = .ok (.caload, 1) := by decide +kernel
theorem dtext_228 : decode method_3_code 228 = .ok (.castore, 1) := by decide +kernel
theorem dtext_229 : decode method_3_code 229 = .ok (.dup, 1) := by decide +kernel
theorem dtext_230 : decode method_3_code 230 = .ok (.iconst 5, 1) := by decide +kernel
theorem dtext_231 : decode method_3_code 231 = .ok (.aload_n 0, 1) := by decide +kernel
theorem dtext_232 : decode method_3_code 232 = .ok (.iconst 5, 1) := by decide +kernel
theorem dtext_233 : decode method_3_code 233 = .ok (.caload, 1) := by decide +kernel
theorem dtext_234 : decode method_3_code 234 = .ok (.castore, 1) := by decide +kernel
theorem dtext_235 : decode method_3_code 235 = .ok (.invokespecial 27, 3) := by decide +kernel
theorem dtext_238 : decode method_3_code 238 = .ok (.areturn, 1) := by decide +kernel
theorem dtext_239 : decode method_3_code 239 = .ok (.iload_n 1, 1) := by decide +kernel
theorem dtext_240 : decode method_3_code 240 = .ok (.bipush 7, 2) := by decide +kernel
theorem dtext_242 : decode method_3_code 242 = .ok (.if_icmp .ne 59, 3) := by decide +kernel
theorem dtext_245 : decode method_3_code 245 = .ok (.new 25, 3) := by decide +kernel
theorem dtext_248 : decode method_3_code 248 = .ok (.dup, 1) := by decide +kernel
theorem dtext_249 : decode method_3_code 249 = .ok (.bipush 7, 2) := by decide +kernel
theorem dtext_251 : decode method_3_code 251 = .ok (.newarray .char, 2) := by decide +kernel
theorem dtext_253 : decode method_3_code 253 = .ok (.dup, 1) := by decide +kernel
theorem dtext_254 : decode method_3_code 254 = .ok (.iconst 0, 1) := by decide +kernel
theorem dtext_255 : decode method_3_code 255 = .ok (.aload_n 0, 1) := by decide +kernel
theorem dtext_256 : decode method_3_code 256 = .ok (.iconst 0, 1) := by decide +kernel
theorem dtext_257 : decode method_3_code 257 = .ok (.caload, 1) := by decide +kernel
theorem dtext_258 : decode method_3_code 258 = .ok (.castore, 1) := by decide +kernel
theorem dtext_259 : decode method_3_code 259 = .ok (.dup, 1) := by decide +kernel
theorem dtext_260 : decode method_3_code 260 = .ok (.iconst 1, 1) := by decide +kernel
theorem dtext_261 : decode method_3_code 261 = .ok (.aload_n 0, 1) := by decide +kernel
theorem dtext_262 : decode method_3_code 262 = .ok (.iconst 1, 1) := by decide +kernel
theorem dtext_263 : decode method_3_code 263 = .ok (.caload, 1) := by decide +kernel
theorem dtext_264 : decode method_3_code 264 = .ok (.castore, 1) := by decide +kernel
theorem dtext_265 : decode method_3_code 265 = .ok (.dup, 1) := by decide +kernel
theorem dtext_266 : decode method_3_code 266 = .ok (.iconst 2, 1) := by decide +kernel
theorem dtext_267 : decode method_3_code 267 = .ok (.aload_n 0, 1) := by decide +kernel
theorem dtext_268 : decode method_3_code 268 = .ok (.iconst 2, 1) := by decide +kernel
theorem dtext_269 : decode method_3_code 269 = .ok (.caload, 1) := by decide +kernel
theorem dtext_270 : decode method_3_code 270 = .ok (.castore, 1) := by decide +kernel
theorem dtext_271 : decode method_3_code 271 = .ok (.dup, 1) := by decide +kernel
theorem dtext_272 : decode method_3_code 272 = .ok (.iconst 3, 1) := by decide +kernel
theorem dtext_273 : decode method_3_code 273 = .ok (.aload_n 0, 1) := by decide +kernel
theorem dtext_274 : decode method_3_code 274 = .ok (.iconst 3, 1) := by decide +kernel
theorem dtext_275 : decode method_3_code 275 = .ok (.caload, 1) := by decide +kernel
theorem dtext_276 : decode method_3_code 276 = .ok (.castore, 1) := by decide +kernel
theorem dtext_277 : decode method_3_code 277 = .ok (.dup, 1) := by decide +kernel
theorem dtext_278 : decode method_3_code 278 = .ok (.iconst 4, 1) := by decide +kernel
theorem dtext_279 : decode method_3_code 279 = .ok (.aload_n 0, 1) := by decide +kernel
theorem dtext_280 : decode method_3_code 280 = .ok (.iconst 4, 1) := by decide +kernel
theorem dtext_281 : decode method_3_code 281 = .ok (.caload, 1) := by decide +kernel
theorem dtext_282 : decode method_3_code 282 = .ok (.castore, 1) := by decide +kernel
theorem dtext_283 : decode method_3_code 283 = .ok (.dup, 1) := by decide +kernel
theorem dtext_284 : decode method_3_code 284 = .ok (.iconst 5, 1) := by decide +kernel
theorem dtext_285 : decode method_3_code 285 = .ok (.aload_n 0, 1) := by decide +kernel
theorem dtext_286 : decode method_3_code 286 = .ok (.iconst 5, 1) := by decide +kernel
theorem dtext_287 : decode method_3_code 287 = .ok (.caload, 1) := by decide +kernel
theorem dtext_288 : decode method_3_code 288 = .ok (.castore, 1) := by decide +kernel
theorem dtext_289 : decode method_3_code 289 = .ok (.dup, 1) := by decide +kernel
theorem dtext_290 : decode method_3_code 290 = .ok (.bipush 6, 2) := by decide +kernel
theorem dtext_292 : decode method_3_code 292 = .ok (.aload_n 0, 1) := by decide +kernel
theorem dtext_293 : decode method_3_code 293 = .ok (.bipush 6, 2) := by decide +kernel
theorem dtext_295 : decode method_3_code 295 = .ok (.caload, 1) := by decide +kernel
theorem dtext_296 : decode method_3_code 296 = .ok (.castore, 1) := by decide +kernel
theorem dtext_297 : decode method_3_code 297 = .ok (.invokespecial 27, 3) := by decide +kernel
theorem dtext_300 : decode method_3_code 300 = .ok (.areturn, 1) := by decide +kernel
theorem dtext_301 : decode method_3_code 301 = .ok (.iload_n 1, 1) := by decide +kernel
theorem dtext_302 : decode method_3_code 302 = .ok (.bipush 8, 2) := by decide +kernel
theorem dtext_304 : decode method_3_code 304 = .ok (.if_icmp .ne 67, 3) := by decide +kernel
theorem dtext_307 : decode method_3_code 307 = .ok (.new 25, 3) := by decide +kernel
theorem dtext_310 : decode method_3_code 310 = .ok (.dup, 1) := by decide +kernel
theorem dtext_311 : decode method_3_code 311 = .ok (.bipush 8, 2) := by decide +kernel
theorem dtext_313 : decode method_3_code 313 = .ok (.newarray .char, 2) := by decide +kernel
theorem dtext_315 : decode method_3_code 315 = .ok (.dup, 1) := by decide +kernel
theorem dtext_316 : decode method_3_code 316 = .ok (.iconst 0, 1) := by decide +kernel
theorem dtext_317 : decode method_3_code 317 = .ok (.aload_n 0, 1) := by decide +kernel
theorem dtext_318 : decode method_3_code 318 = .ok (.iconst 0, 1) := by decide +kernel
theorem dtext_319 : decode method_3_code 319 = .ok (.caload, 1) := by decide +kernel
theorem dtext_320 : decode method_3_code 320 = .ok (.castore, 1) := by decide +kernel
theorem dtext_321 : decode method_3_code 321 = .ok (.dup, 1) := by decide +kernel
theorem dtext_322 : decode method_3_code 322 = .ok (.iconst 1, 1) := by decide +kernel
theorem dtext_323 : decode method_3_code 323 = .ok (.aload_n 0, 1) := by decide +kernel
theorem dtext_324 : decode method_3_code 324 = .ok (.iconst 1, 1) := by decide +kernel
theorem dtext_325 : decode method_3_code 325 = .ok (.caload, 1) := by decide +kernel
theorem dtext_326 : decode method_3_code 326 = .ok (.castore, 1) := by decide +kernel
theorem dtext_327 : decode method_3_code 327 = .ok (.dup, 1) := by decide +kernel
theorem dtext_328 : decode method_3_code 328 = .ok (.iconst 2, 1) := by decide +kernel
theorem dtext_329 : decode method_3_code 329 = .ok (.aload_n 0, 1) := by decide +kernel
theorem dtext_330 : decode method_3_code 330 = .ok (.iconst 2, 1) := by decide +kernel
theorem dtext_331 : decode method_3_code 331 = .ok (.caload, 1) := by decide +kernel
theorem dtext_332 : decode method_3_code 332 = .ok (.castore, 1) := by decide +kernel
theorem dtext_333 : decode method_3_code 333 = .ok (.dup, 1) := by decide +kernel
theorem dtext_334 : decode method_3_code 334 = .ok (.iconst 3, 1) := by decide +kernel
theorem dtext_335 : decode method_3_code 335 = .ok (.aload_n 0, 1) := by decide +kernel
theorem dtext_336 : decode method_3_code 336 = .ok (.iconst 3, 1) := by decide +kernel
theorem dtext_337 : decode method_3_code 337 = .ok (.caload, 1) := by decide +kernel
theorem dtext_338 : decode method_3_code 338 = .ok (.castore, 1) := by decide +kernel
theorem dtext_339 : decode method_3_code 339 = .ok (.dup, 1) := by decide +kernel
theorem dtext_340 : decode method_3_code 340 = .ok (.iconst 4, 1) := by decide +kernel
theorem dtext_341 : decode method_3_code 341 = .ok (.aload_n 0, 1) := by decide +kernel
theorem dtext_342 : decode method_3_code 342 = .ok (.iconst 4, 1) := by decide +kernel
theorem dtext_343 : decode method_3_code 343 = .ok (.caload, 1) := by decide +kernel
theorem dtext_344 : decode method_3_code 344 = .ok (.castore, 1) := by decide +kernel
theorem dtext_345 : decode method_3_code 345 = .ok (.dup, 1) := by decide +kernel
theorem dtext_346 : decode method_3_code 346 = .ok (.iconst 5, 1) := by decide +kernel
theorem dtext_347 : decode method_3_code 347 = .ok (.aload_n 0, 1) := by decide +kernel
theorem dtext_348 : decode method_3_code 348 = .ok (.iconst 5, 1) := by decide +kernel
theorem dtext_349 : decode method_3_code 349 = .ok (.caload, 1) := by decide +kernel
theorem dtext_350 : decode method_3_code 350 = .ok (.castore, 1) := by decide +kernel
theorem dtext_351 : decode method_3_code 351 = .ok (.dup, 1) := by decide +kernel
theorem dtext_352 : decode method_3_code 352 = .ok (.bipush 6, 2) := by decide +kernel
theorem dtext_354 : decode method_3_code 354 = .ok (.aload_n 0, 1) := by decide +kernel
theorem dtext_355 : decode method_3_code 355 = .ok (.bipush 6, 2) := by decide +kernel
theorem dtext_357 : decode method_3_code 357 = .ok (.caload, 1) := by decide +kernel
theorem dtext_358 : decode method_3_code 358 = .ok (.castore, 1) := by decide +kernel
theorem dtext_359 : decode method_3_code 359 = .ok (.dup, 1) := by decide +kernel
theorem dtext_360 : decode method_3_code 360 = .ok (.bipush 7, 2) := by decide +kernel
theorem dtext_362 : decode method_3_code 362 = .ok (.aload_n 0, 1) := by decide +kernel
theorem dtext_363 : decode method_3_code 363 = .ok (.bipush 7, 2) := by decide +kernel
theorem dtext_365 : decode method_3_code 365 = .ok (.caload, 1) := by decide +kernel
theorem dtext_366 : decode method_3_code 366 = .ok (.castore, 1) := by decide +kernel
theorem dtext_367 : decode method_3_code 367 = .ok (.invokespecial 27, 3) := by decide +kernel
theorem dtext_370 : decode method_3_code 370 = .ok (.areturn, 1) := by decide +kernel
theorem dtext_371 : decode method_3_code 371 = .ok (.iload_n 1, 1) := by decide +kernel
theorem dtext_372 : decode method_3_code 372 = .ok (.bipush 9, 2) := by decide +kernel
theorem dtext_374 : decode method_3_code 374 = .ok (.if_icmp .ne 75, 3) := by decide +kernel
theorem dtext_377 : decode method_3_code 377 = .ok (.new 25, 3) := by decide +kernel
theorem dtext_380 : decode method_3_code 380 = .ok (.dup, 1) := by decide +kernel
theorem dtext_381 : decode method_3_code 381 = .ok (.bipush 9, 2) := by decide +kernel
theorem dtext_383 : decode method_3_code 383 = .ok (.newarray .char, 2) := by decide +kernel
theorem dtext_385 : decode method_3_code 385 = .ok (.dup, 1) := by decide +kernel
theorem dtext_386 : decode method_3_code 386 = .ok (.iconst 0, 1) := by decide +kernel
theorem dtext_387 : decode method_3_code 387 = .ok (.aload_n 0, 1) := by decide +kernel
theorem dtext_388 : decode method_3_code 388 = .ok (.iconst 0, 1) := by decide +kernel
theorem dtext_389 : decode method_3_code 389 = .ok (.caload, 1) := by decide +kernel
theorem dtext_390 : decode method_3_code 390 = .ok (.castore, 1) := by decide +kernel
theorem dtext_391 : decode method_3_code 391 = .ok (.dup, 1) := by decide +kernel
theorem dtext_392 : decode method_3_code 392 = .ok (.iconst 1, 1) := by decide +kernel
theorem dtext_393 : decode method_3_code 393 = .ok (.aload_n 0, 1) := by decide +kernel
theorem dtext_394 : decode method_3_code 394 = .ok (.iconst 1, 1) := by decide +kernel
theorem dtext_395 : decode method_3_code 395 = .ok (.caload, 1) := by decide +kernel
theorem dtext_396 : decode method_3_code 396 = .ok (.castore, 1) := by decide +kernel
theorem dtext_397 : decode method_3_code 397 = .ok (.dup, 1) := by decide +kernel
theorem dtext_398 : decode method_3_code 398 = .ok (.iconst 2, 1) := by decide +kernel
theorem dtext_399 : decode method_3_code 399 = .ok (.aload_n 0, 1) := by decide +kernel
theorem dtext_400 : decode method_3_code 400 = .ok (.iconst 2, 1) := by decide +kernel
theorem dtext_401 : decode method_3_code 401 = .ok (.caload, 1) := by decide +kernel
theorem dtext_402 : decode method_3_code 402 = .ok (.castore, 1) := by decide +kernel
theorem dtext_403 : decode method_3_code 403 = .ok (.dup, 1) := by decide +kernel
theorem dtext_404 : decode method_3_code 404 = .ok (.iconst 3, 1) := by decide +kernel
theorem dtext_405 : decode method_3_code 405 = .ok (.aload_n 0, 1) := by decide +kernel
theorem dtext_406 : decode method_3_code 406 = .ok (.iconst 3, 1) := by decide +kernel
theorem dtext_407 : decode method_3_code 407 = .ok (.caload, 1) := by decide +kernel
theorem dtext_408 : decode method_3_code 408 = .ok (.castore, 1) := by decide +kernel
theorem dtext_409 : decode method_3_code 409 = .ok (.dup, 1) := by decide +kernel
theorem dtext_410 : decode method_3_code 410 = .ok (.iconst 4, 1) := by decide +kernel
theorem dtext_411 : decode method_3_code 411 = .ok (.aload_n 0, 1) := by decide +kernel
theorem dtext_412 : decode method_3_code 412 = .ok (.iconst 4, 1) := by decide +kernel
theorem dtext_413 : decode method_3_code 413 = .ok (.caload, 1) := by decide +kernel
theorem dtext_414 : decode method_3_code 414 = .ok (.castore, 1) := by decide +kernel
theorem dtext_415 : decode method_3_code 415 = .ok (.dup, 1) := by decide +kernel
theorem dtext_416 : decode method_3_code 416 = .ok (.iconst 5, 1) := by decide +kernel
theorem dtext_417 : decode method_3_code 417 = .ok (.aload_n 0, 1) := by decide +kernel
theorem dtext_418 : decode method_3_code 418 = .ok (.iconst 5, 1) := by decide +kernel
theorem dtext_419 : decode method_3_code 419 = .ok (.caload, 1) := by decide +kernel
theorem dtext_420 : decode method_3_code 420 = .ok (.castore, 1) := by decide +kernel
theorem dtext_421 : decode method_3_code 421 = .ok (.dup, 1) := by decide +kernel
theorem dtext_422 : decode method_3_code 422 = .ok (.bipush 6, 2) := by decide +kernel
theorem dtext_424 : decode method_3_code 424 = .ok (.aload_n 0, 1) := by decide +kernel
theorem dtext_425 : decode method_3_code 425 = .ok (.bipush 6, 2) := by decide +kernel
theorem dtext_427 : decode method_3_code 427 = .ok (.caload, 1) := by decide +kernel
theorem dtext_428 : decode method_3_code 428 = .ok (.castore, 1) := by decide +kernel
theorem dtext_429 : decode method_3_code 429 = .ok (.dup, 1) := by decide +kernel
theorem dtext_430 : decode method_3_code 430 = .ok (.bipush 7, 2) := by decide +kernel
theorem dtext_432 : decode method_3_code 432 = .ok (.aload_n 0, 1) := by decide +kernel
theorem dtext_433 : decode method_3_code 433 = .ok (.bipush 7, 2) := by decide +kernel
theorem dtext_435 : decode method_3_code 435 = .ok (.caload, 1) := by decide +kernel
theorem dtext_436 : decode method_3_code 436 = .ok (.castore, 1) := by decide +kernel
theorem dtext_437 : decode method_3_code 437 = .ok (.dup, 1) := by decide +kernel
theorem dtext_438 : decode method_3_code 438 = .ok (.bipush 8, 2) := by decide +kernel
theorem dtext_440 : decode method_3_code 440 = .ok (.aload_n 0, 1) := by decide +kernel
theorem dtext_441 : decode method_3_code 441 = .ok (.bipush 8, 2) := by decide +kernel
theorem dtext_443 : decode method_3_code 443 = .ok (.caload, 1) := by decide +kernel
theorem dtext_444 : decode method_3_code 444 = .ok (.castore, 1) := by decide +kernel
theorem dtext_445 : decode method_3_code 445 = .ok (.invokespecial 27, 3) := by decide +kernel
theorem dtext_448 : decode method_3_code 448 = .ok (.areturn, 1) := by decide +kernel
theorem dtext_449 : decode method_3_code 449 = .ok (.new 25, 3) := by decide +kernel
theorem dtext_452 : decode method_3_code 452 = .ok (.dup, 1) := by decide +kernel
theorem dtext_453 : decode method_3_code 453 = .ok (.bipush 10, 2) := by decide +kernel
theorem dtext_455 : decode method_3_code 455 = .ok (.newarray .char, 2) := by decide +kernel
theorem dtext_457 : decode method_3_code 457 = .ok (.dup, 1) := by decide +kernel
theorem dtext_458 : decode method_3_code 458 = .ok (.iconst 0, 1) := by decide +kernel
theorem dtext_459 : decode method_3_code 459 = .ok (.aload_n 0, 1) := by decide +kernel
theorem dtext_460 : decode method_3_code 460 = .ok (.iconst 0, 1) := by decide +kernel
theorem dtext_461 : decode method_3_code 461 = .ok (.caload, 1) := by decide +kernel
theorem dtext_462 : decode method_3_code 462 = .ok (.castore, 1) := by decide +kernel
theorem dtext_463 : decode method_3_code 463 = .ok (.dup, 1) := by decide +kernel
theorem dtext_464 : decode method_3_code 464 = .ok (.iconst 1, 1) := by decide +kernel
theorem dtext_465 : decode method_3_code 465 = .ok (.aload_n 0, 1) := by decide +kernel
theorem dtext_466 : decode method_3_code 466 = .ok (.iconst 1, 1) := by decide +kernel
theorem dtext_467 : decode method_3_code 467 = .ok (.caload, 1) := by decide +kernel
theorem dtext_468 : decode method_3_code 468 = .ok (.castore, 1) := by decide +kernel
theorem dtext_469 : decode method_3_code 469 = .ok (.dup, 1) := by decide +kernel
theorem dtext_470 : decode method_3_code 470 = .ok (.iconst 2, 1) := by decide +kernel
theorem dtext_471 : decode method_3_code 471 = .ok (.aload_n 0, 1) := by decide +kernel
theorem dtext_472 : decode method_3_code 472 = .ok (.iconst 2, 1) := by decide +kernel
theorem dtext_473 : decode method_3_code 473 = .ok (.caload, 1) := by decide +kernel
theorem dtext_474 : decode method_3_code 474 = .ok (.castore, 1) := by decide +kernel
theorem dtext_475 : decode method_3_code 475 = .ok (.dup, 1) := by decide +kernel
theorem dtext_476 : decode method_3_code 476 = .ok (.iconst 3, 1) := by decide +kernel
theorem dtext_477 : decode method_3_code 477 = .ok (.aload_n 0, 1) := by decide +kernel
theorem dtext_478 : decode method_3_code 478 = .ok (.iconst 3, 1) := by decide +kernel
theorem dtext_479 : decode method_3_code 479 = .ok (.caload, 1) := by decide +kernel
theorem dtext_480 : decode method_3_code 480 = .ok (.castore, 1) := by decide +kernel
theorem dtext_481 : decode method_3_code 481 = .ok (.dup, 1) := by decide +kernel
theorem dtext_482 : decode method_3_code 482 = .ok (.iconst 4, 1) := by decide +kernel
theorem dtext_483 : decode method_3_code 483 = .ok (.aload_n 0, 1) := by decide +kernel
theorem dtext_484 : decode method_3_code 484 = .ok (.iconst 4, 1) := by decide +kernel
theorem dtext_485 : decode method_3_code 485 = .ok (.caload, 1) := by decide +kernel
theorem dtext_486 : decode method_3_code 486 = .ok (.castore, 1) := by decide +kernel
theorem dtext_487 : decode method_3_code 487 = .ok (.dup, 1) := by decide +kernel
theorem dtext_488 : decode method_3_code 488 = .ok (.iconst 5, 1) := by decide +kernel
theorem dtext_489 : decode method_3_code 489 = .ok (.aload_n 0, 1) := by decide +kernel
theorem dtext_490 : decode method_3_code 490 = .ok (.iconst 5, 1) := by decide +kernel
theorem dtext_491 : decode method_3_code 491 = .ok (.caload, 1) := by decide +kernel
theorem dtext_492 : decode method_3_code 492 = .ok (.castore, 1) := by decide +kernel
theorem dtext_493 : decode method_3_code 493 = .ok (.dup, 1) := by decide +kernel
theorem dtext_494 : decode method_3_code 494 = .ok (.bipush 6, 2) := by decide +kernel
theorem dtext_496 : decode method_3_code 496 = .ok (.aload_n 0, 1) := by decide +kernel
theorem dtext_497 : decode method_3_code 497 = .ok (.bipush 6, 2) := by decide +kernel
theorem dtext_499 : decode method_3_code 499 = .ok (.caload, 1) := by decide +kernel
theorem dtext_500 : decode method_3_code 500 = .ok (.castore, 1) := by decide +kernel
theorem dtext_501 : decode method_3_code 501 = .ok (.dup, 1) := by decide +kernel
theorem dtext_502 : decode method_3_code 502 = .ok (.bipush 7, 2) := by decide +kernel
theorem dtext_504 : decode method_3_code 504 = .ok (.aload_n 0, 1) := by decide +kernel
theorem dtext_505 : decode method_3_code 505 = .ok (.bipush 7, 2) := by decide +kernel
theorem dtext_507 : decode method_3_code 507 = .ok (.caload, 1) := by decide +kernel
theorem dtext_508 : decode method_3_code 508 = .ok (.castore, 1) := by decide +kernel
theorem dtext_509 : decode method_3_code 509 = .ok (.dup, 1) := by decide +kernel
theorem dtext_510 : decode method_3_code 510 = .ok (.bipush 8, 2) := by decide +kernel
theorem dtext_512 : decode method_3_code 512 = .ok (.aload_n 0, 1) := by decide +kernel
theorem dtext_513 : decode method_3_code 513 = .ok (.bipush 8, 2) := by decide +kernel
theorem dtext_515 : decode method_3_code 515 = .ok (.caload, 1) := by decide +kernel
theorem dtext_516 : decode method_3_code 516 = .ok (.castore, 1) := by decide +kernel
theorem dtext_517 : decode method_3_code 517 = .ok (.dup, 1) := by decide +kernel
theorem dtext_518 : decode method_3_code 518 = .ok (.bipush 9, 2) := by decide +kernel
theorem dtext_520 : decode method_3_code 520 = .ok (.aload_n 0, 1) := by decide +kernel
theorem dtext_521 : decode method_3_code 521 = .ok (.bipush 9, 2) := by decide +kernel
theorem dtext_523 : decode method_3_code 523 = .ok (.caload, 1) := by decide +kernel
theorem dtext_524 : decode method_3_code 524 = .ok (.castore, 1) := by decide +kernel
theorem dtext_525 : decode method_3_code 525 = .ok (.invokespecial 27, 3) := by decide +kernel
theorem dtext_528 : decode method_3_code 528 = .ok (.areturn, 1) := by decide +kernel
abbrev btext : wkB := (⟨"com/example/sober_commit/sobercommit/SeenTextsSlotPinLaw", "text", "([CI)Ljava/lang/String;"⟩, method_3_code, 2, (some (.object "java/lang/String")))
theorem dslot_0 : decode prog_9_method_4_code 0 = .ok (.aload_n 0, 1) := by decide +kernel
theorem dslot_1 : decode prog_9_method_4_code 1 = .ok (.invokevirtual 23, 3) := by decide +kernel
theorem dslot_4 : decode prog_9_method_4_code 4 = .ok (.istore_n 1, 1) := by decide +kernel
theorem dslot_5 : decode prog_9_method_4_code 5 = .ok (.iload_n 1, 1) := by decide +kernel
theorem dslot_6 : decode prog_9_method_4_code 6 = .ok (.istore_n 2, 1) := by decide +kernel
theorem dslot_7 : decode prog_9_method_4_code 7 = .ok (.iload_n 1, 1) := by decide +kernel
theorem dslot_8 : decode prog_9_method_4_code 8 = .ok (.ifCond .le 59, 3) := by decide +kernel
theorem dslot_11 : decode prog_9_method_4_code 11 = .ok (.iload_n 1, 1) := by decide +kernel
theorem dslot_12 : decode prog_9_method_4_code 12 = .ok (.iconst 1, 1) := by decide +kernel
theorem dslot_13 : decode prog_9_method_4_code 13 = .ok (.isub, 1) := by decide +kernel
theorem dslot_14 : decode prog_9_method_4_code 14 = .ok (.istore_n 3, 1) := by decide +kernel
theorem dslot_15 : decode prog_9_method_4_code 15 = .ok (.bipush 31, 2) := by decide +kernel
theorem dslot_17 : decode prog_9_method_4_code 17 = .ok (.iload_n 2, 1) := by decide +kernel
theorem dslot_18 : decode prog_9_method_4_code 18 = .ok (.imul, 1) := by decide +kernel
theorem dslot_19 : decode prog_9_method_4_code 19 = .ok (.aload_n 0, 1) := by decide +kernel
theorem dslot_20 : decode prog_9_method_4_code 20 = .ok (.iload_n 3, 1) := by decide +kernel
theorem dslot_21 : decode prog_9_method_4_code 21 = .ok (.iconst 2, 1) := by decide +kernel
theorem dslot_22 : decode prog_9_method_4_code 22 = .ok (.ishr, 1) := by decide +kernel
theorem dslot_23 : decode prog_9_method_4_code 23 = .ok (.invokevirtual 27, 3) := by decide +kernel
theorem dslot_26 : decode prog_9_method_4_code 26 = .ok (.iadd, 1) := by decide +kernel
theorem dslot_27 : decode prog_9_method_4_code 27 = .ok (.istore_n 2, 1) := by decide +kernel
theorem dslot_28 : decode prog_9_method_4_code 28 = .ok (.bipush 31, 2) := by decide +kernel
theorem dslot_30 : decode prog_9_method_4_code 30 = .ok (.iload_n 2, 1) := by decide +kernel
theorem dslot_31 : decode prog_9_method_4_code 31 = .ok (.imul, 1) := by decide +kernel
theorem dslot_32 : decode prog_9_method_4_code 32 = .ok (.aload_n 0, 1) := by decide +kernel
theorem dslot_33 : decode prog_9_method_4_code 33 = .ok (.iload_n 3, 1) := by decide +kernel
theorem dslot_34 : decode prog_9_method_4_code 34 = .ok (.iconst 1, 1) := by decide +kernel
theorem dslot_35 : decode prog_9_method_4_code 35 = .ok (.ishr, 1) := by decide +kernel
theorem dslot_36 : decode prog_9_method_4_code 36 = .ok (.invokevirtual 27, 3) := by decide +kernel
theorem dslot_39 : decode prog_9_method_4_code 39 = .ok (.iadd, 1) := by decide +kernel
theorem dslot_40 : decode prog_9_method_4_code 40 = .ok (.istore_n 2, 1) := by decide +kernel
theorem dslot_41 : decode prog_9_method_4_code 41 = .ok (.bipush 31, 2) := by decide +kernel
theorem dslot_43 : decode prog_9_method_4_code 43 = .ok (.iload_n 2, 1) := by decide +kernel
theorem dslot_44 : decode prog_9_method_4_code 44 = .ok (.imul, 1) := by decide +kernel
theorem dslot_45 : decode prog_9_method_4_code 45 = .ok (.aload_n 0, 1) := by decide +kernel
theorem dslot_46 : decode prog_9_method_4_code 46 = .ok (.iload_n 3, 1) := by decide +kernel
theorem dslot_47 : decode prog_9_method_4_code 47 = .ok (.iload_n 3, 1) := by decide +kernel
theorem dslot_48 : decode prog_9_method_4_code 48 = .ok (.iconst 2, 1) := by decide +kernel
theorem dslot_49 : decode prog_9_method_4_code 49 = .ok (.ishr, 1) := by decide +kernel
theorem dslot_50 : decode prog_9_method_4_code 50 = .ok (.isub, 1) := by decide +kernel
theorem dslot_51 : decode prog_9_method_4_code 51 = .ok (.invokevirtual 27, 3) := by decide +kernel
theorem dslot_54 : decode prog_9_method_4_code 54 = .ok (.iadd, 1) := by decide +kernel
theorem dslot_55 : decode prog_9_method_4_code 55 = .ok (.istore_n 2, 1) := by decide +kernel
theorem dslot_56 : decode prog_9_method_4_code 56 = .ok (.bipush 31, 2) := by decide +kernel
theorem dslot_58 : decode prog_9_method_4_code 58 = .ok (.iload_n 2, 1) := by decide +kernel
theorem dslot_59 : decode prog_9_method_4_code 59 = .ok (.imul, 1) := by decide +kernel
theorem dslot_60 : decode prog_9_method_4_code 60 = .ok (.aload_n 0, 1) := by decide +kernel
theorem dslot_61 : decode prog_9_method_4_code 61 = .ok (.iload_n 3, 1) := by decide +kernel
theorem dslot_62 : decode prog_9_method_4_code 62 = .ok (.invokevirtual 27, 3) := by decide +kernel
theorem dslot_65 : decode prog_9_method_4_code 65 = .ok (.iadd, 1) := by decide +kernel
theorem dslot_66 : decode prog_9_method_4_code 66 = .ok (.istore_n 2, 1) := by decide +kernel
theorem dslot_67 : decode prog_9_method_4_code 67 = .ok (.iload_n 2, 1) := by decide +kernel
theorem dslot_68 : decode prog_9_method_4_code 68 = .ok (.ldc 31, 2) := by decide +kernel
theorem dslot_70 : decode prog_9_method_4_code 70 = .ok (.imul, 1) := by decide +kernel
theorem dslot_71 : decode prog_9_method_4_code 71 = .ok (.bipush 26, 2) := by decide +kernel
theorem dslot_73 : decode prog_9_method_4_code 73 = .ok (.iushr, 1) := by decide +kernel
theorem dslot_74 : decode prog_9_method_4_code 74 = .ok (.ireturn, 1) := by decide +kernel
abbrev bslot : wkB := (⟨"com/example/sober_commit/sobercommit/Dialect$SeenTexts", "slot", "(Ljava/lang/String;)I"⟩, prog_9_method_4_code, 4, (some .int))
abbrev blaw : wkB := (⟨"com/example/sober_commit/sobercommit/SeenTextsSlotPinLaw", "law", "(IJJI)Z"⟩, code, 14, (some .boolean))
theorem sAtoms {Z : State} {a0 : Array Value} (hw : ∀ d ∈ tables_1, d.before a0 Z = true) : ∀ a ∈ Bundle.stringAtoms, a.before a0 Z = true := by
  intro a ha
  simp only [Bundle.stringAtoms, List.mem_cons, List.not_mem_nil, or_false] at ha
  rcases ha with rfl | rfl | rfl | rfl | rfl | rfl | rfl
  · exact (w8 hw)
  · exact (w7 hw)
  · exact (w20 hw)
  · exact (w21 hw)
  · exact (w22 hw)
  · exact (w23 hw)
  · exact (w24 hw)
abbrev rcmp5 : Room := { frames := 0, cells := 0, slots := 0, locals := 0 }
/-- compress: the chars below 256 go over, up to the first that isn't -/
def Qcmp5 (Z : State) (d : Addr) (cs : List Int32) (v : Option Value) (h' : Heap) (os : List Addr) : Prop := ∃ (i : Nat) (ys : List Int32), i ≤ cs.length ∧ v = some (.int (Int32.ofNat i)) ∧ os = [] ∧ Ia Z h' d .byte ys ∧ ys.length = cs.length ∧ (∀ j, j < i → ∃ c, cs[j]? = some c ∧ ¬ 255 < c ∧ ys[j]? = some (lo8 c)) ∧ (i < cs.length → ∃ c, cs[i]? = some c ∧ 255 < c)
set_option maxRecDepth 65536 in
set_option maxHeartbeats 4000000 in
theorem L_cmp5 (l : Launch) (Z : State) (a0 : Array Value) (g : G Z a0) (hs : Heap) (b d : Addr) (cs : List Int32) (hbd : @Ne Nat b d) (hl31 : cs.length < 2 ^ 31) : ∀ (r i : Nat) (h : Heap) (ds : List Int32) (o6 : Slot), One o6 → i + r = cs.length → Ia Z h b .char cs → Ia Z h d .byte ds → ds.length = cs.length → (∀ j, j < i → ∃ c, cs[j]? = some c ∧ ¬ 255 < c ∧ ds[j]? = some (lo8 c)) →
    wkP l Z bcmp5 rcmp5 hs [d] (Qcmp5 Z d cs) [d] h 0 0 3 #[.val (.ref b), .val (.int (Int32.ofNat i)), .val (.ref d), .val (.int (Int32.ofNat i)), .val (.int (Int32.ofNat cs.length)), .val (.int (Int32.ofNat i)), o6] [] := by
  intro r
  induction r with
  | zero =>
    intro i h ds o6 ho6 hir F D hds hj
    have hi31 : i < 2 ^ 31 := by omega
    refine wkP.iload 5 dcmp5_3 rfl rfl ?_
    refine wkP.iload 7 dcmp5_5 rfl rfl ?_
    refine wkP.icmpT 44 dcmp5_7 (show ¬ (Int32.ofNat i) < (Int32.ofNat cs.length) from (by rw [ofNat_lt hi31 hl31]; omega)) (by decide) (by decide) ?_
    refine wkP.iload 46 dcmp5_44 rfl rfl ?_
    exact wkP.retI .int [] g.2.1 dcmp5_46 rfl (by simp) rfl (by decide) (by decide) (by simp) ⟨i, ds, by omega, by rw [show cs.length = i by omega], rfl, D, hds, hj, fun q => absurd q (by omega)⟩
  | succ r ih =>
    intro i h ds o6 ho6 hir F D hds hj
    have hi31 : i < 2 ^ 31 := by omega
    refine wkP.iload 5 dcmp5_3 rfl rfl ?_
    refine wkP.iload 7 dcmp5_5 rfl rfl ?_
    refine wkP.icmpF 10 dcmp5_7 (show ¬ (¬ (Int32.ofNat i) < (Int32.ofNat cs.length)) from (fun q => q ((ofNat_lt hi31 hl31).mpr (by omega)))) rfl ?_
    refine wkP.aloadN 11 dcmp5_10 rfl rfl rfl ?_
    refine wkP.iloadN 12 dcmp5_11 rfl rfl ?_
    obtain ⟨c, hc⟩ : ∃ c, cs[i]? = some c := ⟨_, List.getElem?_eq_getElem (show i < cs.length by omega)⟩
    refine wkP.caload 13 i c F dcmp5_12 (toI hi31) hc rfl ?_
    refine wkP.istore 15 #[.val (.ref b), .val (.int (Int32.ofNat i)), .val (.ref d), .val (.int (Int32.ofNat i)), .val (.int (Int32.ofNat cs.length)), .val (.int (Int32.ofNat i)), .val (.int c)] dcmp5_13 (XS.store1 rfl ho6 rfl) rfl ?_
    refine wkP.iload 17 dcmp5_15 rfl rfl ?_
    refine wkP.sipush 20 (255 : Int32) dcmp5_17 rfl rfl ?_
    by_cases hq : (255 : Int32) < c
    · refine wkP.icmpF 23 dcmp5_20 (show ¬ (¬ (255 : Int32) < c) from (fun q => q hq)) rfl ?_
      refine wkP.iload 25 dcmp5_23 rfl rfl ?_
      exact wkP.retI .int [] g.2.1 dcmp5_25 rfl (by simp) rfl (by decide) (by decide) (by simp) ⟨i, ds, by omega, rfl, rfl, D, hds, hj, fun _ => ⟨c, hc, hq⟩⟩
    · refine wkP.icmpT 26 dcmp5_20 (show ¬ (255 : Int32) < c from hq) (by decide) (by decide) ?_
      refine wkP.aloadN 27 dcmp5_26 rfl rfl rfl ?_
      refine wkP.iloadN 28 dcmp5_27 rfl rfl ?_
      refine wkP.iload 30 dcmp5_28 rfl rfl ?_
      refine wkP.i2b 31 (lo8 c) dcmp5_30 rfl rfl ?_
      refine wkP.stB 32 i (lo8 c) D dcmp5_31 (toI hi31) (by omega) (nar_lo8 c) (by simp) rfl ?_
      intro h1 K1 A1
      refine wkP.iinc 35 (Int32.ofNat (i + 1)) #[.val (.ref b), .val (.int (Int32.ofNat (i + 1))), .val (.ref d), .val (.int (Int32.ofNat i)), .val (.int (Int32.ofNat cs.length)), .val (.int (Int32.ofNat i)), .val (.int c)] dcmp5_32 rfl (inc1 i) rfl rfl ?_
      refine wkP.iinc 38 (Int32.ofNat (i + 1)) #[.val (.ref b), .val (.int (Int32.ofNat (i + 1))), .val (.ref d), .val (.int (Int32.ofNat (i + 1))), .val (.int (Int32.ofNat cs.length)), .val (.int (Int32.ofNat i)), .val (.int c)] dcmp5_35 rfl (inc1 i) rfl rfl ?_
      refine wkP.iinc 41 (Int32.ofNat (i + 1)) #[.val (.ref b), .val (.int (Int32.ofNat (i + 1))), .val (.ref d), .val (.int (Int32.ofNat (i + 1))), .val (.int (Int32.ofNat cs.length)), .val (.int (Int32.ofNat (i + 1))), .val (.int c)] dcmp5_38 rfl (inc1 i) rfl rfl ?_
      refine wkP.goto 3 dcmp5_41 (by decide) (by decide) ?_
      refine ih (i + 1) h1 (ds.set i (lo8 c)) _ (One.val rfl) (by omega) (F.keep K1 (nn1 hbd)) A1 (by simpa using hds) ?_
      intro j hj1
      by_cases hji : j = i
      · subst hji; exact ⟨c, hc, hq, by simp [show j < ds.length by omega]⟩
      · obtain ⟨c', q1, q2, q3⟩ := hj j (by omega); exact ⟨c', q1, q2, by rw [List.getElem?_set_ne (Ne.symm hji)]; exact q3⟩
set_option maxRecDepth 65536 in
set_option maxHeartbeats 4000000 in
theorem M_cmp5 (l : Launch) (Z : State) (a0 : Array Value) (g : G Z a0) (h : Heap) (b d : Addr) (cs ds : List Int32) (F : Ia Z h b .char cs) (D : Ia Z h d .byte ds) (hl : ds.length = cs.length) : wkM l Z bcmp5 rcmp5 #[.ref b, .int 0, .ref d, .int 0, .int (Int32.ofNat cs.length)] h [d] (Qcmp5 Z d cs) := by
  refine wkM.of #[.val (.ref b), .val (.int (0 : Int32)), .val (.ref d), .val (.int (0 : Int32)), .val (.int (Int32.ofNat cs.length)), .unset, .unset] (plainFor_of_name (by first | (simp [plainName, overriddenIn]; done) | decide +kernel)) (fun m => by first | rfl | (simp [entryFrame, mkF, argsToLocals, Value.category]; done)) ?_
  refine wkP.iconst 1 (0 : Int32) dcmp5_0 rfl rfl ?_
  refine wkP.istore 3 #[.val (.ref b), .val (.int (0 : Int32)), .val (.ref d), .val (.int (0 : Int32)), .val (.int (Int32.ofNat cs.length)), .val (.int (0 : Int32)), .unset] dcmp5_1 rfl rfl ?_
  exact L_cmp5 l Z a0 g h b d cs (F.ne D (by decide)) F.len cs.length 0 h ds .unset One.u (by omega) F D hl (fun j hj => absurd hj (by omega))
abbrev rcodL : Room := { frames := 0, cells := 0, slots := 0, locals := 0 }
set_option maxRecDepth 65536 in
set_option maxHeartbeats 4000000 in
theorem M_codL (l : Launch) (Z : State) (a0 : Array Value) (g : G Z a0) (h : Heap) (b : Addr) (ys : List Int32) (n : Nat) (F : Ia Z h b .byte ys) (hn : ys.length = n) : wkM l Z bcodL rcodL #[.ref b, .int (Int32.ofNat n)] h [] (fun v h' os => v = some (.int 0) ∧ os = [] ∧ h = h') := by
  refine wkM.of #[.val (.ref b), .val (.int (Int32.ofNat n))] (plainFor_of_name (by first | (simp [plainName, overriddenIn]; done) | decide +kernel)) (fun m => by first | rfl | (simp [entryFrame, mkF, argsToLocals, Value.category]; done)) ?_
  refine wkP.iloadN 1 dcodL_0 rfl rfl ?_
  refine wkP.aloadN 2 dcodL_1 rfl rfl rfl ?_
  refine wkP.alen 3 (Int32.ofNat n) F dcodL_2 (by rw [hn]) rfl ?_
  refine wkP.isub 4 (0 : Int32) dcodL_3 (by simp) rfl ?_
  refine wkP.bipush 6 (31 : Int32) dcodL_4 rfl rfl ?_
  refine wkP.iushr 7 (0 : Int32) dcodL_6 (by decide) rfl ?_
  refine wkP.i2b 8 (0 : Int32) dcodL_7 (by decide) rfl ?_
  exact wkP.retI .byte [] g.2.1 dcodL_8 rfl (by simp) rfl (by decide) (by decide) (by simp) ⟨rfl, rfl, rfl⟩
theorem sub2 {n : Nat} (h : 2 * n < 2 ^ 31) : Int32.ofNat n - Int32.ofNat (2 * n) = -(Int32.ofNat n) := by
  have h1 := c_isub (Int32.ofNat n) (Int32.ofNat (2 * n))
  have h2 := c_ineg (Int32.ofNat n)
  have h3 := rng32 (Int32.ofNat n - Int32.ofNat (2 * n))
  have h4 := rng32 (-(Int32.ofNat n))
  rw [toI h, toI (show n < 2 ^ 31 by omega)] at h1
  rw [toI (show n < 2 ^ 31 by omega)] at h2
  rw [← Int32.toInt_inj]; omega
theorem neg31 {n : Nat} (h : 2 * n < 2 ^ 31) (h0 : n ≠ 0) : ((-(Int32.ofNat n)).toUInt32 >>> ((31 : Int32) &&& 31).toUInt32).toInt32 = 1 := by
  have h1 : (((-(Int32.ofNat n)).toUInt32 >>> ((31 : Int32) &&& 31).toUInt32).toInt32).toInt = ((-(Int32.ofNat n)).toInt % 4294967296) / 2147483648 := c_iushr (-(Int32.ofNat n)) 31 31 (by decide) (by decide)
  have h2 := c_ineg (Int32.ofNat n)
  have h4 := rng32 (-(Int32.ofNat n))
  rw [toI (show n < 2 ^ 31 by omega)] at h2
  rw [← Int32.toInt_inj, h1, show (1 : Int32).toInt = 1 from rfl]; omega
set_option maxRecDepth 65536 in
set_option maxHeartbeats 4000000 in
theorem M_codU (l : Launch) (Z : State) (a0 : Array Value) (g : G Z a0) (h : Heap) (b : Addr) (ys : List Int32) (n : Nat) (F : Ia Z h b .byte ys) (hn : ys.length = 2 * n) (h0 : n ≠ 0) : wkM l Z bcodL rcodL #[.ref b, .int (Int32.ofNat n)] h [] (fun v h' os => v = some (.int 1) ∧ os = [] ∧ h = h') := by
  refine wkM.of #[.val (.ref b), .val (.int (Int32.ofNat n))] (plainFor_of_name (by first | (simp [plainName, overriddenIn]; done) | decide +kernel)) (fun m => by first | rfl | (simp [entryFrame, mkF, argsToLocals, Value.category]; done)) ?_
  refine wkP.iloadN 1 dcodL_0 rfl rfl ?_
  refine wkP.aloadN 2 dcodL_1 rfl rfl rfl ?_
  refine wkP.alen 3 (Int32.ofNat (2 * n)) F dcodL_2 (by rw [hn]) rfl ?_
  refine wkP.isub 4 (-(Int32.ofNat n)) dcodL_3 (sub2 (by have := F.len; omega)) rfl ?_
  refine wkP.bipush 6 (31 : Int32) dcodL_4 rfl rfl ?_
  refine wkP.iushr 7 (1 : Int32) dcodL_6 (neg31 (by have := F.len; omega) h0) rfl ?_
  refine wkP.i2b 8 (1 : Int32) dcodL_7 (by decide) rfl ?_
  exact wkP.retI .byte [] g.2.1 dcodL_8 rfl (by simp) rfl (by decide) (by decide) (by simp) ⟨rfl, rfl, rfl⟩
abbrev rnbl : Room := { frames := 0, cells := 0, slots := 0, locals := 0 }
set_option maxRecDepth 65536 in
set_option maxHeartbeats 4000000 in
theorem M_nbl (l : Launch) (Z : State) (a0 : Array Value) (g : G Z a0) (h : Heap) (n : Nat) (hn : n < 1000000) : wkM l Z bnbl rnbl #[.int (Int32.ofNat n)] h [] (fun v h' os => v = some (.int (Int32.ofNat (2 * n))) ∧ os = [] ∧ h = h') := by
  refine wkM.of #[.val (.int (Int32.ofNat n))] (plainFor_of_name (by first | (simp [plainName, overriddenIn]; done) | decide +kernel)) (fun m => by first | rfl | (simp [entryFrame, mkF, argsToLocals, Value.category]; done)) ?_
  refine wkP.iloadN 1 dnbl_0 rfl rfl ?_
  refine wkP.ifT 12 dnbl_1 (show ¬ (Int32.ofNat n) < (0 : Int32) from (nn_of (by omega))) (by decide) (by decide) ?_
  refine wkP.iloadN 13 dnbl_12 rfl rfl ?_
  refine wkP.ldcI 15 (w61 g.1) dnbl_13 rfl ?_
  refine wkP.icmpT 55 dnbl_15 (show (Int32.ofNat n) < (1073741823 : Int32) from (by rw [Int32.lt_iff_toInt_lt, toI (show n < 2 ^ 31 by omega)]; simp only [Int32.reduceToInt]; omega)) (by decide) (by decide) ?_
  refine wkP.iloadN 56 dnbl_55 rfl rfl ?_
  refine wkP.iconst 57 (1 : Int32) dnbl_56 rfl rfl ?_
  refine wkP.ishl 58 (Int32.ofNat (2 * n)) dnbl_57 (shl1 (by omega)) rfl ?_
  exact wkP.retI .int [] g.2.1 dnbl_58 rfl (by simp) rfl (by decide) (by decide) (by simp) ⟨rfl, rfl, rfl⟩
abbrev rnbf : Room := { frames := 1, cells := 1, slots := 20, locals := 12 }
set_option maxRecDepth 65536 in
set_option maxHeartbeats 4000000 in
theorem M_nbf (l : Launch) (Z : State) (a0 : Array Value) (g : G Z a0) (h : Heap) (n : Nat) (hn : n ≤ 10) : wkM l Z bnbf rnbf #[.int (Int32.ofNat n)] h [] (fun v h' os => ∃ d, v = some (.ref d) ∧ h.size ≤ d ∧ os = [d] ∧ Ia Z h' d .byte (List.replicate (2 * n) 0)) := by
  refine wkM.of #[.val (.int (Int32.ofNat n))] (plainFor_of_name (by first | (simp [plainName, overriddenIn]; done) | decide +kernel)) (fun m => by first | rfl | (simp [entryFrame, mkF, argsToLocals, Value.category]; done)) ?_
  refine wkP.iloadN 1 dnbf_0 rfl rfl ?_
  refine wkP.callS 4 (M_nbl l Z a0 g _ n (by omega)) [(.int (Int32.ofNat n))] [] 0 g.2.1 (w58 g.1) (w59 g.1) (w47 g.1) (w60 g.1) (by decide) dnbf_1 (lenOf pd0 rfl) rfl rfl rfl (by simp) (Nat.le_of_eq rfl) (by decide) (by decide) (by decide) (by decide) rfl ?_
  rintro v2 _ o2 ⟨rfl, rfl, rfl⟩ K2
  refine wkP.newP 6 .byte (2 * n) 20 (w20 g.1) rfl rfl rfl dnbf_4 (toI (by omega)) (by omega) (by decide) (by decide) (by decide) rfl ?_
  intro h3 a3 g3 l3 K3 A3
  have z3 := K3.1
  exact wkP.retA (.array .byte) [a3] g.2.1 dnbf_6 rfl rfl (by decide) (by decide) (by simp) ⟨a3, rfl, by omega, rfl, A3⟩
abbrev rulen : Room := { frames := 0, cells := 0, slots := 0, locals := 0 }
set_option maxRecDepth 65536 in
set_option maxHeartbeats 4000000 in
theorem M_ulen (l : Launch) (Z : State) (a0 : Array Value) (g : G Z a0) (h : Heap) (d : Addr) (ys : List Int32) (n : Nat) (F : Ia Z h d .byte ys) (hn : ys.length = 2 * n) : wkM l Z bulen rulen #[.ref d] h [] (fun v h' os => v = some (.int (Int32.ofNat n)) ∧ os = [] ∧ h = h') := by
  refine wkM.of #[.val (.ref d)] (plainFor_of_name (by first | (simp [plainName, overriddenIn]; done) | decide +kernel)) (fun m => by first | rfl | (simp [entryFrame, mkF, argsToLocals, Value.category]; done)) ?_
  refine wkP.aloadN 1 dulen_0 rfl rfl rfl ?_
  refine wkP.alen 2 (Int32.ofNat (2 * n)) F dulen_1 (by rw [hn]) rfl ?_
  refine wkP.iconst 3 (1 : Int32) dulen_2 rfl rfl ?_
  refine wkP.ishr 4 (Int32.ofNat n) dulen_3 (shr1 (by have := F.len; omega)) rfl ?_
  exact wkP.retI .int [] g.2.1 dulen_4 rfl (by simp) rfl (by decide) (by decide) (by simp) ⟨rfl, rfl, rfl⟩
abbrev rputC : Room := { frames := 0, cells := 0, slots := 0, locals := 0 }
set_option maxRecDepth 65536 in
set_option maxHeartbeats 4000000 in
theorem M_putC (l : Launch) (Z : State) (a0 : Array Value) (g : G Z a0) (h : Heap) (d : Addr) (ys : List Int32) (i : Nat) (c : Int32) (F : Ia Z h d .byte ys) (hi : 2 * i + 1 < ys.length) : wkM l Z bputC rputC #[.ref d, .int (Int32.ofNat i), .int c] h [d] (fun v h' os => v = none ∧ os = [] ∧ Ia Z h' d .byte ((ys.set (2 * i) (lo8 c)).set (2 * i + 1) (hi8 c))) := by
  refine wkM.of #[.val (.ref d), .val (.int (Int32.ofNat i)), .val (.int c)] (plainFor_of_name (by first | (simp [plainName, overriddenIn]; done) | decide +kernel)) (fun m => by first | rfl | (simp [entryFrame, mkF, argsToLocals, Value.category]; done)) ?_
  refine wkP.getS 3 (w65 g.1) g.2.2.2.2.1 Via.refl dputC_0 rfl ?_
  refine wkP.ifT 28 dputC_3 (show ¬ (1 : Int32) = (0 : Int32) from (by decide)) (by decide) (by decide) ?_
  refine wkP.iloadN 29 dputC_28 rfl rfl ?_
  refine wkP.iconst 30 (1 : Int32) dputC_29 rfl rfl ?_
  refine wkP.ishl 31 (Int32.ofNat (2 * i)) dputC_30 (shl1 (by have := F.len; omega)) rfl ?_
  refine wkP.istoreN 32 #[.val (.ref d), .val (.int (Int32.ofNat (2 * i))), .val (.int c)] dputC_31 rfl rfl ?_
  refine wkP.aloadN 33 dputC_32 rfl rfl rfl ?_
  refine wkP.iloadN 34 dputC_33 rfl rfl ?_
  refine wkP.iinc 37 (Int32.ofNat (2 * i + 1)) #[.val (.ref d), .val (.int (Int32.ofNat (2 * i + 1))), .val (.int c)] dputC_34 rfl (inc1 _) rfl rfl ?_
  refine wkP.iloadN 38 dputC_37 rfl rfl ?_
  refine wkP.getS 41 (w66 g.1) g.2.2.2.2.2.1 Via.refl dputC_38 rfl ?_
  refine wkP.ishr 42 c dputC_41 (shr0 c) rfl ?_
  refine wkP.i2b 43 (lo8 c) dputC_42 rfl rfl ?_
  refine wkP.stB 44 (2 * i) (lo8 c) F dputC_43 (toI (by have := F.len; omega)) (by omega) (nar_lo8 c) (by simp) rfl ?_
  intro h1 K1 A1
  refine wkP.aloadN 45 dputC_44 rfl rfl rfl ?_
  refine wkP.iloadN 46 dputC_45 rfl rfl ?_
  refine wkP.iloadN 47 dputC_46 rfl rfl ?_
  refine wkP.getS 50 (w67 g.1) g.2.2.2.2.2.2 Via.refl dputC_47 rfl ?_
  refine wkP.ishr 51 (c >>> ((8 : Int32) &&& 31)) dputC_50 rfl rfl ?_
  refine wkP.i2b 52 (hi8 c) dputC_51 rfl rfl ?_
  refine wkP.stB 53 (2 * i + 1) (hi8 c) A1 dputC_52 (toI (by have := F.len; omega)) (by simp; omega) (nar_hi8 c) (by simp) rfl ?_
  intro h2 K2 A2
  exact wkP.ret0 [] g.2.1 dputC_53 rfl (by decide) (by decide) (by simp) ⟨rfl, rfl, A2⟩
abbrev rgetC : Room := { frames := 0, cells := 0, slots := 0, locals := 0 }
set_option maxRecDepth 65536 in
set_option maxHeartbeats 4000000 in
theorem M_getC (l : Launch) (Z : State) (a0 : Array Value) (g : G Z a0) (h : Heap) (d : Addr) (cs : List Int32) (i : Nat) (c : Int32) (F : Ia Z h d .byte (u16 cs)) (hc : cs[i]? = some c) (hch : ¬ c < 0 ∧ ¬ 65535 < c) : wkM l Z bgetC rgetC #[.ref d, .int (Int32.ofNat i)] h [] (fun v h' os => v = some (.int c) ∧ os = [] ∧ h = h') := by
  refine wkM.of #[.val (.ref d), .val (.int (Int32.ofNat i))] (plainFor_of_name (by first | (simp [plainName, overriddenIn]; done) | decide +kernel)) (fun m => by first | rfl | (simp [entryFrame, mkF, argsToLocals, Value.category]; done)) ?_
  have hi : i < cs.length := (List.getElem?_eq_some_iff.mp hc).1
  have hL := F.len
  rw [u16_len] at hL
  obtain ⟨q1, q2⟩ := u16_at cs i c hc
  refine wkP.getS 3 (w65 g.1) g.2.2.2.2.1 Via.refl dgetC_0 rfl ?_
  refine wkP.ifT 28 dgetC_3 (show ¬ (1 : Int32) = (0 : Int32) from (by decide)) (by decide) (by decide) ?_
  refine wkP.iloadN 29 dgetC_28 rfl rfl ?_
  refine wkP.iconst 30 (1 : Int32) dgetC_29 rfl rfl ?_
  refine wkP.ishl 31 (Int32.ofNat (2 * i)) dgetC_30 (shl1 (by omega)) rfl ?_
  refine wkP.istoreN 32 #[.val (.ref d), .val (.int (Int32.ofNat (2 * i)))] dgetC_31 rfl rfl ?_
  refine wkP.aloadN 33 dgetC_32 rfl rfl rfl ?_
  refine wkP.iloadN 34 dgetC_33 rfl rfl ?_
  refine wkP.iinc 37 (Int32.ofNat (2 * i + 1)) #[.val (.ref d), .val (.int (Int32.ofNat (2 * i + 1)))] dgetC_34 rfl (inc1 _) rfl rfl ?_
  refine wkP.baload 38 (2 * i) (lo8 c) F dgetC_37 (toI (by omega)) q1 rfl ?_
  refine wkP.sipush 41 (255 : Int32) dgetC_38 rfl rfl ?_
  refine wkP.iand 42 ((lo8 c) &&& (255 : Int32)) dgetC_41 rfl rfl ?_
  refine wkP.getS 45 (w66 g.1) g.2.2.2.2.2.1 Via.refl dgetC_42 rfl ?_
  refine wkP.ishl 46 ((lo8 c) &&& (255 : Int32)) dgetC_45 (shl0 _) rfl ?_
  refine wkP.aloadN 47 dgetC_46 rfl rfl rfl ?_
  refine wkP.iloadN 48 dgetC_47 rfl rfl ?_
  refine wkP.baload 49 (2 * i + 1) (hi8 c) F dgetC_48 (toI (by omega)) q2 rfl ?_
  refine wkP.sipush 52 (255 : Int32) dgetC_49 rfl rfl ?_
  refine wkP.iand 53 ((hi8 c) &&& (255 : Int32)) dgetC_52 rfl rfl ?_
  refine wkP.getS 56 (w67 g.1) g.2.2.2.2.2.2 Via.refl dgetC_53 rfl ?_
  refine wkP.ishl 57 (((hi8 c) &&& (255 : Int32)) <<< ((8 : Int32) &&& 31)) dgetC_56 rfl rfl ?_
  refine wkP.ior 58 (((lo8 c) &&& (255 : Int32)) ||| (((hi8 c) &&& (255 : Int32)) <<< ((8 : Int32) &&& 31))) dgetC_57 rfl rfl ?_
  refine wkP.i2c 59 c dgetC_58 (u16_get hch) rfl ?_
  exact wkP.retI .char [] g.2.1 dgetC_59 rfl (by simp) (by show Value.int (nar .char c) = _; rw [nar_c hch]) (by decide) (by decide) (by simp) ⟨rfl, rfl, rfl⟩
abbrev rtoBy : Room := { frames := 2, cells := 1, slots := 20, locals := 24 }
set_option maxRecDepth 65536 in
set_option maxHeartbeats 4000000 in
theorem L_toBy (l : Launch) (Z : State) (a0 : Array Value) (g : G Z a0) (hs : Heap) (b d : Addr) (cs : List Int32) (hbd : @Ne Nat b d) (hl31 : cs.length < 2 ^ 31) (gd : hs.size ≤ d) : ∀ (r i : Nat) (h : Heap) (ds : List Int32), i + r = cs.length → Ia Z h b .char cs → Ia Z h d .byte ds → ds.length = 2 * cs.length → (∀ j, j < i → ∃ c, cs[j]? = some c ∧ ds[2 * j]? = some (lo8 c) ∧ ds[2 * j + 1]? = some (hi8 c)) →
    wkP l Z btoBy rtoBy hs [] (fun v h' os => ∃ d, v = some (.ref d) ∧ hs.size ≤ d ∧ os = [d] ∧ Ia Z h' d .byte (u16 cs)) [d] h 1 20 8 #[.val (.ref b), .val (.int (Int32.ofNat i)), .val (.int (Int32.ofNat cs.length)), .val (.ref d), .val (.int (Int32.ofNat i))] [] := by
  intro r
  induction r with
  | zero =>
    intro i h ds hir F D hds hj
    have hi31 : i < 2 ^ 31 := by omega
    refine wkP.iload 10 dtoBy_8 rfl rfl ?_
    refine wkP.iloadN 11 dtoBy_10 rfl rfl ?_
    refine wkP.icmpT 32 dtoBy_11 (show ¬ (Int32.ofNat i) < (Int32.ofNat cs.length) from (by rw [ofNat_lt hi31 hl31]; omega)) (by decide) (by decide) ?_
    refine wkP.aloadN 33 dtoBy_32 rfl rfl rfl ?_
    have e : ds = u16 cs := u16_ext hds (fun j hj1 => hj j (by omega))
    subst e
    exact wkP.retA (.array .byte) [d] g.2.1 dtoBy_33 rfl rfl (by decide) (by decide) (by simp) ⟨d, rfl, gd, rfl, D⟩
  | succ r ih =>
    intro i h ds hir F D hds hj
    have hi31 : i < 2 ^ 31 := by omega
    refine wkP.iload 10 dtoBy_8 rfl rfl ?_
    refine wkP.iloadN 11 dtoBy_10 rfl rfl ?_
    refine wkP.icmpF 14 dtoBy_11 (show ¬ (¬ (Int32.ofNat i) < (Int32.ofNat cs.length)) from (fun q => q ((ofNat_lt hi31 hl31).mpr (by omega)))) rfl ?_
    refine wkP.aloadN 15 dtoBy_14 rfl rfl rfl ?_
    refine wkP.iload 17 dtoBy_15 rfl rfl ?_
    refine wkP.aloadN 18 dtoBy_17 rfl rfl rfl ?_
    refine wkP.iloadN 19 dtoBy_18 rfl rfl ?_
    obtain ⟨c, hc⟩ : ∃ c, cs[i]? = some c := ⟨_, List.getElem?_eq_getElem (show i < cs.length by omega)⟩
    refine wkP.caload 20 i c F dtoBy_19 (toI hi31) hc rfl ?_
    refine wkP.callS 23 (M_putC l Z a0 g _ d ds i c D (by omega)) [(.ref d), (.int (Int32.ofNat i)), (.int c)] [] 0 g.2.1 (w62 g.1) (w63 g.1) (w47 g.1) (w64 g.1) (by decide) dtoBy_20 (lenOf pd2 rfl) rfl rfl rfl (by simp) (Nat.le_of_eq rfl) (by decide) (by decide) (by decide) (by decide) rfl ?_
    rintro v6 h6 o6 ⟨rfl, rfl, A6⟩ K6
    have z6 := K6.1
    refine wkP.iinc 26 (Int32.ofNat (i + 1)) #[.val (.ref b), .val (.int (Int32.ofNat (i + 1))), .val (.int (Int32.ofNat cs.length)), .val (.ref d), .val (.int (Int32.ofNat i))] dtoBy_23 rfl (inc1 i) rfl rfl ?_
    refine wkP.iinc 29 (Int32.ofNat (i + 1)) #[.val (.ref b), .val (.int (Int32.ofNat (i + 1))), .val (.int (Int32.ofNat cs.length)), .val (.ref d), .val (.int (Int32.ofNat (i + 1)))] dtoBy_26 rfl (inc1 i) rfl rfl ?_
    refine wkP.goto 8 dtoBy_29 (by decide) (by decide) ?_
    refine ih (i + 1) _ _ (by omega) (F.keep K6 (nn1 hbd)) A6 (by simpa using hds) ?_
    intro j hj1
    by_cases hji : j = i
    · subst hji; refine ⟨c, hc, ?_, ?_⟩
      · rw [List.getElem?_set_ne (by omega), List.getElem?_set_self (by omega)]
      · rw [List.getElem?_set_self (by simp; omega)]
    · obtain ⟨c', q1, q2, q3⟩ := hj j (by omega)
      exact ⟨c', q1, by rw [List.getElem?_set_ne (by omega), List.getElem?_set_ne (by omega)]; exact q2, by rw [List.getElem?_set_ne (by omega), List.getElem?_set_ne (by omega)]; exact q3⟩
set_option maxRecDepth 65536 in
set_option maxHeartbeats 4000000 in
theorem M_toBy (l : Launch) (Z : State) (a0 : Array Value) (g : G Z a0) (h : Heap) (b : Addr) (cs : List Int32) (F : Ia Z h b .char cs) (hcap : cs.length ≤ 10) : wkM l Z btoBy rtoBy #[.ref b, .int 0, .int (Int32.ofNat cs.length)] h [] (fun v h' os => ∃ d, v = some (.ref d) ∧ h.size ≤ d ∧ os = [d] ∧ Ia Z h' d .byte (u16 cs)) := by
  refine wkM.of #[.val (.ref b), .val (.int (0 : Int32)), .val (.int (Int32.ofNat cs.length)), .unset, .unset] (plainFor_of_name (by first | (simp [plainName, overriddenIn]; done) | decide +kernel)) (fun m => by first | rfl | (simp [entryFrame, mkF, argsToLocals, Value.category]; done)) ?_
  refine wkP.iloadN 1 dtoBy_0 rfl rfl ?_
  refine wkP.callS 4 (M_nbf l Z a0 g _ cs.length (by omega)) [(.int (Int32.ofNat cs.length))] [] 0 g.2.1 (w55 g.1) (w56 g.1) (w47 g.1) (w57 g.1) (by decide) dtoBy_1 (lenOf pd1 rfl) rfl rfl rfl (by simp) (Nat.le_of_eq rfl) (by decide) (by decide) (by decide) (by decide) rfl ?_
  rintro v4 h4 o4 ⟨d, rfl, gd, rfl, A4⟩ K4
  have z4 := K4.1
  refine wkP.astoreN 5 #[.val (.ref b), .val (.int (0 : Int32)), .val (.int (Int32.ofNat cs.length)), .val (.ref d), .unset] dtoBy_4 rfl rfl rfl ?_
  refine wkP.iconst 6 (0 : Int32) dtoBy_5 rfl rfl ?_
  refine wkP.istore 8 #[.val (.ref b), .val (.int (0 : Int32)), .val (.int (Int32.ofNat cs.length)), .val (.ref d), .val (.int (0 : Int32))] dtoBy_6 rfl rfl ?_
  have F_5 := (F.keep K4 nn0)
  exact L_toBy l Z a0 g h b d cs (by have := F.lt; omega) F.len gd cs.length 0 _ _ (by omega) F_5 A4 (by simp) (fun j hj => absurd hj (by omega))
abbrev rcmp3 : Room := { frames := 3, cells := 2, slots := 30, locals := 40 }
set_option maxRecDepth 65536 in
set_option maxHeartbeats 4000000 in
theorem M_cmp3 (l : Launch) (Z : State) (a0 : Array Value) (g : G Z a0) (h : Heap) (b : Addr) (cs : List Int32) (F : Ia Z h b .char cs) (hch : chs cs) (hcap : cs.length ≤ 10) : wkM l Z bcmp3 rcmp3 #[.ref b, .int 0, .int (Int32.ofNat cs.length)] h [] (fun v h' os => ∃ d, v = some (.ref d) ∧ h.size ≤ d ∧ os = [d] ∧ ((lat cs ∧ Ia Z h' d .byte (cs.map lo8)) ∨ (¬ lat cs ∧ Ia Z h' d .byte (u16 cs)))) := by
  refine wkM.of #[.val (.ref b), .val (.int (0 : Int32)), .val (.int (Int32.ofNat cs.length)), .unset, .unset, .unset] (plainFor_of_name (by first | (simp [plainName, overriddenIn]; done) | decide +kernel)) (fun m => by first | rfl | (simp [entryFrame, mkF, argsToLocals, Value.category]; done)) ?_
  refine wkP.iloadN 1 dcmp3_0 rfl rfl ?_
  refine wkP.newP 3 .byte cs.length 10 (w20 g.1) rfl rfl rfl dcmp3_1 (toI F.len) (by omega) (by decide) (by decide) (by decide) rfl ?_
  intro h7 a7 g7 l7 K7 A7
  have z7 := K7.1
  refine wkP.astoreN 4 #[.val (.ref b), .val (.int (0 : Int32)), .val (.int (Int32.ofNat cs.length)), .val (.ref a7), .unset, .unset] dcmp3_3 rfl rfl rfl ?_
  refine wkP.aloadN 5 dcmp3_4 rfl rfl rfl ?_
  refine wkP.iloadN 6 dcmp3_5 rfl rfl ?_
  refine wkP.aloadN 7 dcmp3_6 rfl rfl rfl ?_
  refine wkP.iconst 8 (0 : Int32) dcmp3_7 rfl rfl ?_
  refine wkP.iloadN 9 dcmp3_8 rfl rfl ?_
  have F_8 := (F.keep K7 nn0)
  refine wkP.callS 12 (M_cmp5 l Z a0 g _ b a7 cs _ F_8 A7 (by simp)) [(.ref b), (.int (0 : Int32)), (.ref a7), (.int (0 : Int32)), (.int (Int32.ofNat cs.length))] [] 0 g.2.1 (w49 g.1) (w50 g.1) (w47 g.1) (w51 g.1) (by decide) dcmp3_9 (lenOf pd3 rfl) rfl rfl rfl (by simp) (Nat.le_of_eq rfl) (by decide) (by decide) (by decide) (by decide) rfl ?_
  rintro v9 h9 o9 ⟨i, ys, hi, rfl, rfl, A9, hy, hj, hno⟩ K9
  have z9 := K9.1
  have hlb := F.lt
  refine wkP.istore 14 #[.val (.ref b), .val (.int (0 : Int32)), .val (.int (Int32.ofNat cs.length)), .val (.ref a7), .val (.int (Int32.ofNat i)), .unset] dcmp3_12 rfl rfl ?_
  refine wkP.iload 16 dcmp3_14 rfl rfl ?_
  refine wkP.iloadN 17 dcmp3_16 rfl rfl ?_
  by_cases hil : i = cs.length
  · refine wkP.icmpT 57 dcmp3_17 (show (Int32.ofNat i) = (Int32.ofNat cs.length) from (by rw [hil])) (by decide) (by decide) ?_
    have hlat : lat cs := by
      intro c hc
      obtain ⟨j, hjl, rfl⟩ := List.getElem_of_mem hc
      obtain ⟨c', c1, c2, -⟩ := hj j (by omega)
      rw [List.getElem?_eq_getElem hjl] at c1; cases c1; exact ⟨(hch _ hc).1, c2⟩
    have hys : ys = cs.map lo8 := by
      refine List.ext_getElem? fun j => ?_
      rcases Nat.lt_or_ge j cs.length with q | q
      · obtain ⟨c, c1, -, c2⟩ := hj j (by omega); rw [c2]; simp [c1]
      · rw [List.getElem?_eq_none (by omega), List.getElem?_eq_none (by simpa using q)]
    subst hys
    refine wkP.aloadN 58 dcmp3_57 rfl rfl rfl ?_
    exact wkP.retA (.array .byte) [a7] g.2.1 dcmp3_58 rfl rfl (by decide) (by decide) (by simp) ⟨a7, rfl, by omega, rfl, Or.inl ⟨hlat, A9⟩⟩
  · refine wkP.icmpF 20 dcmp3_17 (show ¬ ((Int32.ofNat i) = (Int32.ofNat cs.length)) from (fun q => hil ((ofNat_inj (show i < 2 ^ 31 by have := F.len; omega) F.len).mp q))) rfl ?_
    obtain ⟨c, hc, hc2⟩ := hno (by omega)
    have hlat : ¬ lat cs := fun q => (q c (List.mem_of_getElem? hc)).2 hc2
    refine wkP.aloadN 21 dcmp3_20 rfl rfl rfl ?_
    refine wkP.iloadN 22 dcmp3_21 rfl rfl ?_
    refine wkP.iloadN 23 dcmp3_22 rfl rfl ?_
    have F_10 := (F_8.keep K9 (nnS (by omega) nn0))
    refine wkP.callS 26 (M_toBy l Z a0 g _ b cs F_10 hcap) [(.ref b), (.int (0 : Int32)), (.int (Int32.ofNat cs.length))] [] 0 g.2.1 (w52 g.1) (w53 g.1) (w47 g.1) (w54 g.1) (by decide) dcmp3_23 (lenOf pd4 rfl) rfl rfl rfl (by simp) (Nat.le_of_eq rfl) (by decide) (by decide) (by decide) (by decide) rfl ?_
    rintro v11 h11 o11 ⟨u, rfl, gu, rfl, A11⟩ K11
    have z11 := K11.1
    refine wkP.astore 28 #[.val (.ref b), .val (.int (0 : Int32)), .val (.int (Int32.ofNat cs.length)), .val (.ref a7), .val (.int (Int32.ofNat i)), .val (.ref u)] dcmp3_26 rfl rfl rfl ?_
    refine wkP.aload 30 dcmp3_28 rfl rfl rfl ?_
    refine wkP.iload 32 dcmp3_30 rfl rfl ?_
    refine wkP.callS 35 (M_getC l Z a0 g _ u cs i c A11 hc (hch c (List.mem_of_getElem? hc))) [(.ref u), (.int (Int32.ofNat i))] [] 0 g.2.1 (w68 g.1) (w69 g.1) (w47 g.1) (w70 g.1) (by decide) dcmp3_32 (lenOf pd5 rfl) rfl rfl rfl (by simp) (Nat.le_of_eq rfl) (by decide) (by decide) (by decide) (by decide) rfl ?_
    rintro v12 _ o12 ⟨rfl, rfl, rfl⟩ K12
    refine wkP.sipush 38 (255 : Int32) dcmp3_35 rfl rfl ?_
    refine wkP.icmpT 54 dcmp3_38 (show (255 : Int32) < c from hc2) (by decide) (by decide) ?_
    refine wkP.aload 56 dcmp3_54 rfl rfl rfl ?_
    exact wkP.retA (.array .byte) [u] g.2.1 dcmp3_56 rfl rfl (by decide) (by decide) (by simp) ⟨u, rfl, by omega, rfl, Or.inr ⟨hlat, A11⟩⟩
abbrev rinit4 : Room := { frames := 4, cells := 4, slots := 30, locals := 57 }
set_option maxRecDepth 65536 in
set_option maxHeartbeats 4000000 in
theorem M_init4 (l : Launch) (Z : State) (a0 : Array Value) (g : G Z a0) (h : Heap) (a b : Addr) (cs : List Int32) (F : Ia Z h b .char cs) (hch : chs cs) (hcap : cs.length ≤ 10) (vc vv : Value) (E : Exa Z h a "java/lang/String") (FC : Fld Z h a "java/lang/String" "coder" "B" vc) (FV : Fld Z h a "java/lang/String" "value" "[B" vv) : wkM l Z binit4 rinit4 #[.ref a, .ref b, .int 0, .int (Int32.ofNat cs.length), .null] h [a] (fun v h' os => ∃ d, v = none ∧ os = [] ∧ St Z h' a d cs) := by
  refine wkM.of #[.val (.ref a), .val (.ref b), .val (.int (0 : Int32)), .val (.int (Int32.ofNat cs.length)), .val .null, .unset] (plainFor_of_name (by first | (simp [plainName, overriddenIn]; done) | decide +kernel)) (fun m => by first | rfl | (simp [entryFrame, mkF, argsToLocals, Value.category]; done)) ?_
  obtain ⟨zc, hzc, hzn⟩ := g.2.2.1
  have la := exaLt E
  refine wkP.aloadN 1 dinit4_0 rfl rfl rfl ?_
  refine wkP.initO 4 (w16 g.1) (w17 g.1) (w18 g.1) dinit4_1 rfl (by decide) 0 (Nat.le_of_eq rfl) (by decide) rfl ?_
  refine wkP.iloadN 5 dinit4_4 rfl rfl ?_
  by_cases hne : cs.length = 0
  · refine wkP.ifF 8 dinit4_5 (show ¬ (¬ (Int32.ofNat cs.length) = (0 : Int32)) from (fun q => q (by rw [hne]; rfl))) rfl ?_
    obtain rfl : cs = [] := List.length_eq_zero_iff.mp hne
    refine wkP.aloadN 9 dinit4_8 rfl rfl rfl ?_
    refine wkP.ldc 11 ([] : List Int32) 0 (w19 g.1) (sAtoms g.1) g.2.1 (by decide) (by decide) rfl (by decide) dinit4_9 (by decide) (by decide) (by decide) (by decide) rfl ?_
    intro h13 a13 b13 K13 E13 C13 V13 A13 ne13
    have z13 := K13.1
    have la13 := exaLt E13
    have lb13 := A13.lt
    refine wkP.getF 14 (w25 g.1) V13 Via.refl dinit4_11 rfl ?_
    have FV_14 := (FV.keep K13 nn0)
    have E_15 := (E.keep K13)
    have FC_16 := (FC.keep K13 nn0)
    refine wkP.putF 17 (w25 g.1) FV_14 E_15 (Or.inr ⟨(w21 g.1), rfl, rfl⟩) (w7 g.1) (ty := (.array .byte)) (by decide) rfl rfl dinit4_14 (by simp) rfl ?_
    intro h17 K17 W17
    have z17 := K17.1
    have F17 := Fld.same W17 FV_14
    have E17 := Exa.wr W17 E_15
    have F18 := Fld.other W17 FC_16 (Or.inr (slot_ne (t := .byte) (t' := (.array .byte)) (Or.inr (w22 g.1)) (Or.inr (w21 g.1)) (by decide) (by decide) (by decide)))
    refine wkP.aloadN 18 dinit4_17 rfl rfl rfl ?_
    refine wkP.ldc 20 ([] : List Int32) 0 (w19 g.1) (sAtoms g.1) g.2.1 (by decide) (by decide) rfl (by decide) dinit4_18 (by decide) (by decide) (by decide) (by decide) rfl ?_
    intro h19 a19 b19 K19 E19 C19 V19 A19 ne19
    have z19 := K19.1
    have la19 := exaLt E19
    have lb19 := A19.lt
    refine wkP.getF 23 (w26 g.1) C19 Via.refl dinit4_20 rfl ?_
    have F18_20 := (F18.keep K19 nn0)
    have E17_21 := (E17.keep K19)
    have F17_22 := (F17.keep K19 nn0)
    refine wkP.putF 26 (w26 g.1) F18_20 E17_21 (Or.inr ⟨(w22 g.1), rfl, rfl⟩) (w7 g.1) (ty := .byte) (by decide) rfl rfl dinit4_23 (by simp) rfl ?_
    intro h23 K23 W23
    have z23 := K23.1
    have F23 := Fld.same W23 F18_20
    have E23 := Exa.wr W23 E17_21
    have F24 := Fld.other W23 F17_22 (Or.inr (slot_ne (t := (.array .byte)) (t' := .byte) (Or.inr (w21 g.1)) (Or.inr (w22 g.1)) (by decide) (by decide) (by decide)))
    have A13_25 := (((A13.keep K17 (nnS (Ne.symm (ne13 a (by simp)).2) nn0)).keep K19 nn0).keep K23 (nnS (Ne.symm (ne13 a (by simp)).2) nn0))
    exact wkP.ret0 [] g.2.1 dinit4_26 rfl (by decide) (by decide) (by simp) ⟨b13, rfl, rfl, Or.inl ⟨E23, F23, F24, A13_25, fun x hx => by simp at hx⟩⟩
  · refine wkP.ifT 27 dinit4_5 (show ¬ (Int32.ofNat cs.length) = (0 : Int32) from (fun q => hne ((ofNat_inj F.len (by decide)).mp q))) (by decide) (by decide) ?_
    refine wkP.getS 30 (w41 g.1) hzc Via.refl dinit4_27 rfl ?_
    refine wkP.ifF 33 dinit4_30 (show ¬ (zc = (0 : Int32)) from hzn) rfl ?_
    refine wkP.aloadN 34 dinit4_33 rfl rfl rfl ?_
    refine wkP.iloadN 35 dinit4_34 rfl rfl ?_
    refine wkP.iloadN 36 dinit4_35 rfl rfl ?_
    refine wkP.callS 39 (M_cmp3 l Z a0 g _ b cs F hch hcap) [(.ref b), (.int (0 : Int32)), (.int (Int32.ofNat cs.length))] [] 0 g.2.1 (w45 g.1) (w46 g.1) (w47 g.1) (w48 g.1) (by decide) dinit4_36 (lenOf pd4 rfl) rfl rfl rfl (by simp) (Nat.le_of_eq rfl) (by decide) (by decide) (by decide) (by decide) rfl ?_
    rintro v26 h26 o26 ⟨d, rfl, gd, rfl, A26⟩ K26
    have z26 := K26.1
    refine wkP.astore 41 #[.val (.ref a), .val (.ref b), .val (.int (0 : Int32)), .val (.int (Int32.ofNat cs.length)), .val .null, .val (.ref d)] dinit4_39 rfl rfl rfl ?_
    refine wkP.aloadN 42 dinit4_41 rfl rfl rfl ?_
    refine wkP.aload 44 dinit4_42 rfl rfl rfl ?_
    refine wkP.iloadN 45 dinit4_44 rfl rfl ?_
    rcases A26 with ⟨hlat, A26⟩ | ⟨hlat, A26⟩
    · have ld := A26.lt
      have hl2 : (cs.map lo8).length = cs.length := by simp
      refine wkP.callS 48 (M_codL l Z a0 g _ d (cs.map lo8) cs.length A26 hl2) [(.ref d), (.int (Int32.ofNat cs.length))] [(.ref a)] 1 g.2.1 (w71 g.1) (w72 g.1) (w47 g.1) (w73 g.1) (by decide) dinit4_45 (lenOf pd6 rfl) rfl rfl rfl (by simp) (Nat.le_of_eq rfl) (by decide) (by decide) (by decide) (by decide) rfl ?_
      rintro v27 _ o27 ⟨rfl, rfl, rfl⟩ K27
      have FC_28 := (FC.keep K26 nn0)
      have E_29 := (E.keep K26)
      have FV_30 := (FV.keep K26 nn0)
      refine wkP.putF 51 (w26 g.1) FC_28 E_29 (Or.inr ⟨(w22 g.1), rfl, rfl⟩) (w7 g.1) (ty := .byte) (by decide) rfl rfl dinit4_48 (by simp) rfl ?_
      intro h31 K31 W31
      have z31 := K31.1
      have F31 := Fld.same W31 FC_28
      have E31 := Exa.wr W31 E_29
      have F32 := Fld.other W31 FV_30 (Or.inr (slot_ne (t := (.array .byte)) (t' := .byte) (Or.inr (w21 g.1)) (Or.inr (w22 g.1)) (by decide) (by decide) (by decide)))
      refine wkP.aloadN 52 dinit4_51 rfl rfl rfl ?_
      refine wkP.aload 54 dinit4_52 rfl rfl rfl ?_
      refine wkP.putF 57 (w25 g.1) F32 E31 (Or.inr ⟨(w21 g.1), rfl, rfl⟩) (w7 g.1) (ty := (.array .byte)) (by decide) rfl rfl dinit4_54 (by simp) rfl ?_
      intro h33 K33 W33
      have z33 := K33.1
      have F33 := Fld.same W33 F32
      have E33 := Exa.wr W33 E31
      have F34 := Fld.other W33 F31 (Or.inr (slot_ne (t := .byte) (t' := (.array .byte)) (Or.inr (w22 g.1)) (Or.inr (w21 g.1)) (by decide) (by decide) (by decide)))
      have A26_35 := ((A26.keep K31 (nnS (by omega) nn0)).keep K33 (nnS (by omega) nn0))
      exact wkP.ret0 [] g.2.1 dinit4_57 rfl (by decide) (by decide) (by simp) ⟨d, rfl, rfl, Or.inl ⟨E33, F34, F33, A26_35, hlat⟩⟩
    · have ld := A26.lt
      refine wkP.callS 48 (M_codU l Z a0 g _ d (u16 cs) cs.length A26 (u16_len cs) hne) [(.ref d), (.int (Int32.ofNat cs.length))] [(.ref a)] 1 g.2.1 (w71 g.1) (w72 g.1) (w47 g.1) (w73 g.1) (by decide) dinit4_45 (lenOf pd6 rfl) rfl rfl rfl (by simp) (Nat.le_of_eq rfl) (by decide) (by decide) (by decide) (by decide) rfl ?_
      rintro v36 _ o36 ⟨rfl, rfl, rfl⟩ K36
      have FC_37 := (FC.keep K26 nn0)
      have E_38 := (E.keep K26)
      have FV_39 := (FV.keep K26 nn0)
      refine wkP.putF 51 (w26 g.1) FC_37 E_38 (Or.inr ⟨(w22 g.1), rfl, rfl⟩) (w7 g.1) (ty := .byte) (by decide) rfl rfl dinit4_48 (by simp) rfl ?_
      intro h40 K40 W40
      have z40 := K40.1
      have F40 := Fld.same W40 FC_37
      have E40 := Exa.wr W40 E_38
      have F41 := Fld.other W40 FV_39 (Or.inr (slot_ne (t := (.array .byte)) (t' := .byte) (Or.inr (w21 g.1)) (Or.inr (w22 g.1)) (by decide) (by decide) (by decide)))
      refine wkP.aloadN 52 dinit4_51 rfl rfl rfl ?_
      refine wkP.aload 54 dinit4_52 rfl rfl rfl ?_
      refine wkP.putF 57 (w25 g.1) F41 E40 (Or.inr ⟨(w21 g.1), rfl, rfl⟩) (w7 g.1) (ty := (.array .byte)) (by decide) rfl rfl dinit4_54 (by simp) rfl ?_
      intro h42 K42 W42
      have z42 := K42.1
      have F42 := Fld.same W42 F41
      have E42 := Exa.wr W42 E40
      have F43 := Fld.other W42 F40 (Or.inr (slot_ne (t := .byte) (t' := (.array .byte)) (Or.inr (w22 g.1)) (Or.inr (w21 g.1)) (by decide) (by decide) (by decide)))
      have A26_44 := ((A26.keep K40 (nnS (by omega) nn0)).keep K42 (nnS (by omega) nn0))
      exact wkP.ret0 [] g.2.1 dinit4_57 rfl (by decide) (by decide) (by simp) ⟨d, rfl, rfl, Or.inr ⟨E42, F43, F42, A26_44, hch, hlat⟩⟩
abbrev rinit1 : Room := { frames := 5, cells := 4, slots := 30, locals := 74 }
set_option maxRecDepth 65536 in
set_option maxHeartbeats 4000000 in
theorem M_init1 (l : Launch) (Z : State) (a0 : Array Value) (g : G Z a0) (h : Heap) (a b : Addr) (cs : List Int32) (F : Ia Z h b .char cs) (hch : chs cs) (hcap : cs.length ≤ 10) (vc vv : Value) (E : Exa Z h a "java/lang/String") (FC : Fld Z h a "java/lang/String" "coder" "B" vc) (FV : Fld Z h a "java/lang/String" "value" "[B" vv) : wkM l Z binit1 rinit1 #[.ref a, .ref b] h [a] (fun v h' os => ∃ d, v = none ∧ os = [] ∧ St Z h' a d cs) := by
  refine wkM.of #[.val (.ref a), .val (.ref b)] (plainFor_of_name (by first | (simp [plainName, overriddenIn]; done) | decide +kernel)) (fun m => by first | rfl | (simp [entryFrame, mkF, argsToLocals, Value.category]; done)) ?_
  refine wkP.aloadN 1 dinit1_0 rfl rfl rfl ?_
  refine wkP.aloadN 2 dinit1_1 rfl rfl rfl ?_
  refine wkP.iconst 3 (0 : Int32) dinit1_2 rfl rfl ?_
  refine wkP.aloadN 4 dinit1_3 rfl rfl rfl ?_
  refine wkP.alen 5 (Int32.ofNat cs.length) F dinit1_4 rfl rfl ?_
  refine wkP.anull 6 dinit1_5 rfl ?_
  refine wkP.callI 9 (M_init4 l Z a0 g _ a b cs F hch hcap vc vv E FC FV) [(.ref b), (.int (0 : Int32)), (.int (Int32.ofNat cs.length)), .null] [] 0 g.2.1 (w12 g.1) (w13 g.1) (w8 g.1) (w15 g.1) rfl rfl (by decide) dinit1_6 (lenOf pd7 rfl) rfl rfl rfl (by simp) (Nat.le_of_eq rfl) (by decide) (by decide) (by decide) (by decide) rfl ?_
  rintro v45 h45 o45 ⟨d, rfl, rfl, H⟩ K45
  have z45 := K45.1
  exact wkP.ret0 [] g.2.1 dinit1_9 rfl (by decide) (by decide) (by simp) ⟨d, rfl, rfl, H⟩
abbrev rcoder : Room := { frames := 0, cells := 0, slots := 0, locals := 0 }
set_option maxRecDepth 65536 in
set_option maxHeartbeats 4000000 in
theorem M_coderL (l : Launch) (Z : State) (a0 : Array Value) (g : G Z a0) (h : Heap) (a b : Addr) (cs : List Int32) (F : SL Z h a b cs) : wkM l Z bcoder rcoder #[.ref a] h [] (fun v h' os => v = some (.int 0) ∧ os = [] ∧ h = h') := by
  refine wkM.of #[.val (.ref a)] (plainFor_of_name (by first | (simp [plainName, overriddenIn]; done) | decide +kernel)) (fun m => by first | rfl | (simp [entryFrame, mkF, argsToLocals, Value.category]; done)) ?_
  obtain ⟨zc, hzc, hzn⟩ := g.2.2.1
  refine wkP.getS 3 (w41 g.1) hzc Via.refl dcoder_0 rfl ?_
  refine wkP.ifF 6 dcoder_3 (show ¬ (zc = (0 : Int32)) from hzn) rfl ?_
  refine wkP.aloadN 7 dcoder_6 rfl rfl rfl ?_
  refine wkP.getF 10 (w26 g.1) F.2.1 Via.refl dcoder_7 rfl ?_
  refine wkP.goto 14 dcoder_10 (by decide) (by decide) ?_
  exact wkP.retI .byte [] g.2.1 dcoder_14 rfl (by simp) rfl (by decide) (by decide) (by simp) ⟨rfl, rfl, rfl⟩
set_option maxRecDepth 65536 in
set_option maxHeartbeats 4000000 in
theorem M_coderU (l : Launch) (Z : State) (a0 : Array Value) (g : G Z a0) (h : Heap) (a b : Addr) (cs : List Int32) (F : SU Z h a b cs) : wkM l Z bcoder rcoder #[.ref a] h [] (fun v h' os => v = some (.int 1) ∧ os = [] ∧ h = h') := by
  refine wkM.of #[.val (.ref a)] (plainFor_of_name (by first | (simp [plainName, overriddenIn]; done) | decide +kernel)) (fun m => by first | rfl | (simp [entryFrame, mkF, argsToLocals, Value.category]; done)) ?_
  obtain ⟨zc, hzc, hzn⟩ := g.2.2.1
  refine wkP.getS 3 (w41 g.1) hzc Via.refl dcoder_0 rfl ?_
  refine wkP.ifF 6 dcoder_3 (show ¬ (zc = (0 : Int32)) from hzn) rfl ?_
  refine wkP.aloadN 7 dcoder_6 rfl rfl rfl ?_
  refine wkP.getF 10 (w26 g.1) F.2.1 Via.refl dcoder_7 rfl ?_
  refine wkP.goto 14 dcoder_10 (by decide) (by decide) ?_
  exact wkP.retI .byte [] g.2.1 dcoder_14 rfl (by simp) rfl (by decide) (by decide) (by simp) ⟨rfl, rfl, rfl⟩
abbrev risLat : Room := { frames := 0, cells := 0, slots := 0, locals := 0 }
set_option maxRecDepth 65536 in
set_option maxHeartbeats 4000000 in
theorem M_isLatL (l : Launch) (Z : State) (a0 : Array Value) (g : G Z a0) (h : Heap) (a b : Addr) (cs : List Int32) (F : SL Z h a b cs) : wkM l Z bisLat risLat #[.ref a] h [] (fun v h' os => v = some (.int 1) ∧ os = [] ∧ h = h') := by
  refine wkM.of #[.val (.ref a)] (plainFor_of_name (by first | (simp [plainName, overriddenIn]; done) | decide +kernel)) (fun m => by first | rfl | (simp [entryFrame, mkF, argsToLocals, Value.category]; done)) ?_
  obtain ⟨zc, hzc, hzn⟩ := g.2.2.1
  refine wkP.getS 3 (w41 g.1) hzc Via.refl disLat_0 rfl ?_
  refine wkP.ifF 6 disLat_3 (show ¬ (zc = (0 : Int32)) from hzn) rfl ?_
  refine wkP.aloadN 7 disLat_6 rfl rfl rfl ?_
  refine wkP.getF 10 (w26 g.1) F.2.1 Via.refl disLat_7 rfl ?_
  refine wkP.ifF 13 disLat_10 (show ¬ (¬ (0 : Int32) = (0 : Int32)) from (by decide)) rfl ?_
  refine wkP.iconst 14 (1 : Int32) disLat_13 rfl rfl ?_
  refine wkP.goto 18 disLat_14 (by decide) (by decide) ?_
  exact wkP.retI .boolean [] g.2.1 disLat_18 rfl (by simp) rfl (by decide) (by decide) (by simp) ⟨rfl, rfl, rfl⟩
set_option maxRecDepth 65536 in
set_option maxHeartbeats 4000000 in
theorem M_isLatU (l : Launch) (Z : State) (a0 : Array Value) (g : G Z a0) (h : Heap) (a b : Addr) (cs : List Int32) (F : SU Z h a b cs) : wkM l Z bisLat risLat #[.ref a] h [] (fun v h' os => v = some (.int 0) ∧ os = [] ∧ h = h') := by
  refine wkM.of #[.val (.ref a)] (plainFor_of_name (by first | (simp [plainName, overriddenIn]; done) | decide +kernel)) (fun m => by first | rfl | (simp [entryFrame, mkF, argsToLocals, Value.category]; done)) ?_
  obtain ⟨zc, hzc, hzn⟩ := g.2.2.1
  refine wkP.getS 3 (w41 g.1) hzc Via.refl disLat_0 rfl ?_
  refine wkP.ifF 6 disLat_3 (show ¬ (zc = (0 : Int32)) from hzn) rfl ?_
  refine wkP.aloadN 7 disLat_6 rfl rfl rfl ?_
  refine wkP.getF 10 (w26 g.1) F.2.1 Via.refl disLat_7 rfl ?_
  refine wkP.ifT 17 disLat_10 (show ¬ (1 : Int32) = (0 : Int32) from (by decide)) (by decide) (by decide) ?_
  refine wkP.iconst 18 (0 : Int32) disLat_17 rfl rfl ?_
  exact wkP.retI .boolean [] g.2.1 disLat_18 rfl (by simp) rfl (by decide) (by decide) (by simp) ⟨rfl, rfl, rfl⟩
abbrev rlen : Room := { frames := 1, cells := 0, slots := 0, locals := 13 }
set_option maxRecDepth 65536 in
set_option maxHeartbeats 4000000 in
theorem M_len (l : Launch) (Z : State) (a0 : Array Value) (g : G Z a0) (h : Heap) (a b : Addr) (cs : List Int32) (F : St Z h a b cs)  : wkM l Z blen rlen #[.ref a] h [] (fun v h' os => v = some (.int (Int32.ofNat cs.length)) ∧ os = [] ∧ h = h') := by
  refine wkM.of #[.val (.ref a)] (plainFor_of_name (by first | (simp [plainName, overriddenIn]; done) | decide +kernel)) (fun m => by first | rfl | (simp [entryFrame, mkF, argsToLocals, Value.category]; done)) ?_
  rcases F with F | F
  · refine wkP.aloadN 1 dlen_0 rfl rfl rfl ?_
    refine wkP.getF 4 (w25 g.1) F.2.2.1 Via.refl dlen_1 rfl ?_
    have hL := F.2.2.2.1.len
    refine wkP.alen 5 (Int32.ofNat cs.length) F.2.2.2.1 dlen_4 (by simp) rfl ?_
    refine wkP.aloadN 6 dlen_5 rfl rfl rfl ?_
    refine wkP.callV 9 (M_coderL l Z a0 g _ a b cs F) [] [(.int (Int32.ofNat cs.length))] 1 g.2.1 F.1 (wkNFs (w39 g.1)) (w36 g.1) (w37 g.1) (w39 g.1) (w38 g.1) (w8 g.1) (w40 g.1) (by decide) dlen_6 (lenOf pd8 rfl) rfl rfl rfl (by simp) (Nat.le_of_eq rfl) (by decide) (by decide) (by decide) (by decide) rfl ?_
    rintro v46 _ o46 ⟨rfl, rfl, rfl⟩ K46
    refine wkP.ishr 10 (Int32.ofNat cs.length) dlen_9 (shr0 _) rfl ?_
    exact wkP.retI .int [] g.2.1 dlen_10 rfl (by simp) rfl (by decide) (by decide) (by simp) ⟨rfl, rfl, rfl⟩
  · refine wkP.aloadN 1 dlen_0 rfl rfl rfl ?_
    refine wkP.getF 4 (w25 g.1) F.2.2.1 Via.refl dlen_1 rfl ?_
    have hL := F.2.2.2.1.len
    rw [u16_len] at hL
    refine wkP.alen 5 (Int32.ofNat (2 * cs.length)) F.2.2.2.1 dlen_4 (by rw [u16_len]) rfl ?_
    refine wkP.aloadN 6 dlen_5 rfl rfl rfl ?_
    refine wkP.callV 9 (M_coderU l Z a0 g _ a b cs F) [] [(.int (Int32.ofNat (2 * cs.length)))] 1 g.2.1 F.1 (wkNFs (w39 g.1)) (w36 g.1) (w37 g.1) (w39 g.1) (w38 g.1) (w8 g.1) (w40 g.1) (by decide) dlen_6 (lenOf pd8 rfl) rfl rfl rfl (by simp) (Nat.le_of_eq rfl) (by decide) (by decide) (by decide) (by decide) rfl ?_
    rintro v47 _ o47 ⟨rfl, rfl, rfl⟩ K47
    refine wkP.ishr 10 (Int32.ofNat cs.length) dlen_9 (shr1 hL) rfl ?_
    exact wkP.retI .int [] g.2.1 dlen_10 rfl (by simp) rfl (by decide) (by decide) (by simp) ⟨rfl, rfl, rfl⟩
abbrev rpchk : Room := { frames := 0, cells := 0, slots := 0, locals := 0 }
set_option maxRecDepth 65536 in
set_option maxHeartbeats 4000000 in
theorem M_pchk (l : Launch) (Z : State) (a0 : Array Value) (g : G Z a0) (h : Heap) (i n : Nat) (fm : Value) (hr : fm.isRef = true) (hi : i < n) (hn : n < 2 ^ 31) : wkM l Z bpchk rpchk #[.int (Int32.ofNat i), .int (Int32.ofNat n), fm] h [] (fun v h' os => v = some (.int (Int32.ofNat i)) ∧ os = [] ∧ h = h') := by
  obtain rfl | ⟨fa, rfl⟩ := ref_cases hr
  · refine wkM.of #[.val (.int (Int32.ofNat i)), .val (.int (Int32.ofNat n)), .val .null] (plainFor_of_name (by first | (simp [plainName, overriddenIn]; done) | decide +kernel)) (fun m => by first | rfl | (simp [entryFrame, mkF, argsToLocals, Value.category]; done)) ?_
    refine wkP.iloadN 1 dpchk_0 rfl rfl ?_
    refine wkP.ifF 4 dpchk_1 (show ¬ ((Int32.ofNat i) < (0 : Int32)) from (nn_of (by omega))) rfl ?_
    refine wkP.iloadN 5 dpchk_4 rfl rfl ?_
    refine wkP.iloadN 6 dpchk_5 rfl rfl ?_
    refine wkP.icmpT 16 dpchk_6 (show (Int32.ofNat i) < (Int32.ofNat n) from ((ofNat_lt (by omega) hn).mpr hi)) (by decide) (by decide) ?_
    refine wkP.iloadN 17 dpchk_16 rfl rfl ?_
    exact wkP.retI .int [] g.2.1 dpchk_17 rfl (by simp) rfl (by decide) (by decide) (by simp) ⟨rfl, rfl, rfl⟩
  · refine wkM.of #[.val (.int (Int32.ofNat i)), .val (.int (Int32.ofNat n)), .val (.ref fa)] (plainFor_of_name (by first | (simp [plainName, overriddenIn]; done) | decide +kernel)) (fun m => by first | rfl | (simp [entryFrame, mkF, argsToLocals, Value.category]; done)) ?_
    refine wkP.iloadN 1 dpchk_0 rfl rfl ?_
    refine wkP.ifF 4 dpchk_1 (show ¬ ((Int32.ofNat i) < (0 : Int32)) from (nn_of (by omega))) rfl ?_
    refine wkP.iloadN 5 dpchk_4 rfl rfl ?_
    refine wkP.iloadN 6 dpchk_5 rfl rfl ?_
    refine wkP.icmpT 16 dpchk_6 (show (Int32.ofNat i) < (Int32.ofNat n) from ((ofNat_lt (by omega) hn).mpr hi)) (by decide) (by decide) ?_
    refine wkP.iloadN 17 dpchk_16 rfl rfl ?_
    exact wkP.retI .int [] g.2.1 dpchk_17 rfl (by simp) rfl (by decide) (by decide) (by simp) ⟨rfl, rfl, rfl⟩
abbrev rschk : Room := { frames := 1, cells := 0, slots := 0, locals := 14 }
set_option maxRecDepth 65536 in
set_option maxHeartbeats 4000000 in
theorem M_schk (l : Launch) (Z : State) (a0 : Array Value) (g : G Z a0) (h : Heap) (i n : Nat) (hi : i < n) (hn : n < 2 ^ 31) : wkM l Z bschk rschk #[.int (Int32.ofNat i), .int (Int32.ofNat n)] h [] (fun v h' os => v = none ∧ os = [] ∧ h = h') := by
  refine wkM.of #[.val (.int (Int32.ofNat i)), .val (.int (Int32.ofNat n))] (plainFor_of_name (by first | (simp [plainName, overriddenIn]; done) | decide +kernel)) (fun m => by first | rfl | (simp [entryFrame, mkF, argsToLocals, Value.category]; done)) ?_
  obtain ⟨fm, hfm, hr⟩ := g.2.2.2.1
  refine wkP.iloadN 1 dschk_0 rfl rfl ?_
  refine wkP.iloadN 2 dschk_1 rfl rfl ?_
  refine wkP.getS 5 (w96 g.1) hfm Via.refl dschk_2 rfl ?_
  have hcat : fm.category = 1 := by obtain rfl | ⟨_, rfl⟩ := ref_cases hr <;> rfl
  refine wkP.callS 8 (M_pchk l Z a0 g _ i n fm hr hi hn) [(.int (Int32.ofNat i)), (.int (Int32.ofNat n)), fm] [] 0 g.2.1 (w98 g.1) (w99 g.1) (w97 g.1) (w100 g.1) (by decide) dschk_5 (lenOf pd9 rfl) rfl rfl rfl (by simp) (Nat.le_of_eq rfl) (by decide) (by decide) (by decide) (by decide) rfl ?_
  rintro v48 _ o48 ⟨rfl, rfl, rfl⟩ K48
  refine wkP.pop 9 dschk_8 rfl rfl ?_
  exact wkP.ret0 [] g.2.1 dschk_9 rfl (by decide) (by decide) (by simp) ⟨rfl, rfl, rfl⟩
abbrev ruchk : Room := { frames := 2, cells := 0, slots := 0, locals := 27 }
set_option maxRecDepth 65536 in
set_option maxHeartbeats 4000000 in
theorem M_uchk (l : Launch) (Z : State) (a0 : Array Value) (g : G Z a0) (h : Heap) (d : Addr) (ys : List Int32) (i n : Nat) (F : Ia Z h d .byte ys) (hn : ys.length = 2 * n) (hi : i < n) : wkM l Z buchk ruchk #[.int (Int32.ofNat i), .ref d] h [] (fun v h' os => v = none ∧ os = [] ∧ h = h') := by
  refine wkM.of #[.val (.int (Int32.ofNat i)), .val (.ref d)] (plainFor_of_name (by first | (simp [plainName, overriddenIn]; done) | decide +kernel)) (fun m => by first | rfl | (simp [entryFrame, mkF, argsToLocals, Value.category]; done)) ?_
  have hL := F.len
  refine wkP.iloadN 1 duchk_0 rfl rfl ?_
  refine wkP.aloadN 2 duchk_1 rfl rfl rfl ?_
  refine wkP.callS 5 (M_ulen l Z a0 g _ d ys n F hn) [(.ref d)] [(.int (Int32.ofNat i))] 1 g.2.1 (w90 g.1) (w91 g.1) (w47 g.1) (w92 g.1) (by decide) duchk_2 (lenOf pd10 rfl) rfl rfl rfl (by simp) (Nat.le_of_eq rfl) (by decide) (by decide) (by decide) (by decide) rfl ?_
  rintro v49 _ o49 ⟨rfl, rfl, rfl⟩ K49
  refine wkP.callS 8 (M_schk l Z a0 g _ i n hi (by omega)) [(.int (Int32.ofNat i)), (.int (Int32.ofNat n))] [] 0 g.2.1 (w93 g.1) (w94 g.1) (w8 g.1) (w95 g.1) (by decide) duchk_5 (lenOf pd11 rfl) rfl rfl rfl (by simp) (Nat.le_of_eq rfl) (by decide) (by decide) (by decide) (by decide) rfl ?_
  rintro v50 _ o50 ⟨rfl, rfl, rfl⟩ K50
  exact wkP.ret0 [] g.2.1 duchk_8 rfl (by decide) (by decide) (by simp) ⟨rfl, rfl, rfl⟩
abbrev rlch : Room := { frames := 2, cells := 0, slots := 0, locals := 27 }
set_option maxRecDepth 65536 in
set_option maxHeartbeats 4000000 in
theorem M_lch (l : Launch) (Z : State) (a0 : Array Value) (g : G Z a0) (h : Heap) (d : Addr) (cs : List Int32) (i : Nat) (c : Int32) (F : Ia Z h d .byte (cs.map lo8)) (hc : cs[i]? = some c) (hch : ¬ c < 0 ∧ ¬ 255 < c) : wkM l Z blch rlch #[.ref d, .int (Int32.ofNat i)] h [] (fun v h' os => v = some (.int c) ∧ os = [] ∧ h = h') := by
  refine wkM.of #[.val (.ref d), .val (.int (Int32.ofNat i))] (plainFor_of_name (by first | (simp [plainName, overriddenIn]; done) | decide +kernel)) (fun m => by first | rfl | (simp [entryFrame, mkF, argsToLocals, Value.category]; done)) ?_
  have hi : i < cs.length := (List.getElem?_eq_some_iff.mp hc).1
  have hL : cs.length < 2 ^ 31 := by have := F.len; simpa using this
  refine wkP.iloadN 1 dlch_0 rfl rfl ?_
  refine wkP.aloadN 2 dlch_1 rfl rfl rfl ?_
  refine wkP.alen 3 (Int32.ofNat cs.length) F dlch_2 (by simp) rfl ?_
  refine wkP.callS 6 (M_schk l Z a0 g _ i cs.length hi hL) [(.int (Int32.ofNat i)), (.int (Int32.ofNat cs.length))] [] 0 g.2.1 (w106 g.1) (w94 g.1) (w8 g.1) (w95 g.1) (by decide) dlch_3 (lenOf pd11 rfl) rfl rfl rfl (by simp) (Nat.le_of_eq rfl) (by decide) (by decide) (by decide) (by decide) rfl ?_
  rintro v51 _ o51 ⟨rfl, rfl, rfl⟩ K51
  refine wkP.aloadN 7 dlch_6 rfl rfl rfl ?_
  refine wkP.iloadN 8 dlch_7 rfl rfl ?_
  refine wkP.baload 9 i (lo8 c) F dlch_8 (toI (by omega)) (by simp [hc]) rfl ?_
  refine wkP.sipush 12 (255 : Int32) dlch_9 rfl rfl ?_
  refine wkP.iand 13 ((lo8 c) &&& (255 : Int32)) dlch_12 rfl rfl ?_
  refine wkP.i2c 14 c dlch_13 (lat_get hch) rfl ?_
  exact wkP.retI .char [] g.2.1 dlch_14 rfl (by simp) (by show Value.int (nar .char c) = _; rw [nar_c ⟨hch.1, by have := hch.2; simp only [Int32.lt_iff_toInt_lt, Int32.reduceToInt] at this ⊢; omega⟩]) (by decide) (by decide) (by simp) ⟨rfl, rfl, rfl⟩
abbrev ruch : Room := { frames := 3, cells := 0, slots := 0, locals := 40 }
set_option maxRecDepth 65536 in
set_option maxHeartbeats 4000000 in
theorem M_uch (l : Launch) (Z : State) (a0 : Array Value) (g : G Z a0) (h : Heap) (d : Addr) (cs : List Int32) (i : Nat) (c : Int32) (F : Ia Z h d .byte (u16 cs)) (hc : cs[i]? = some c) (hch : ¬ c < 0 ∧ ¬ 65535 < c) : wkM l Z buch ruch #[.ref d, .int (Int32.ofNat i)] h [] (fun v h' os => v = some (.int c) ∧ os = [] ∧ h = h') := by
  refine wkM.of #[.val (.ref d), .val (.int (Int32.ofNat i))] (plainFor_of_name (by first | (simp [plainName, overriddenIn]; done) | decide +kernel)) (fun m => by first | rfl | (simp [entryFrame, mkF, argsToLocals, Value.category]; done)) ?_
  have hi : i < cs.length := (List.getElem?_eq_some_iff.mp hc).1
  refine wkP.iloadN 1 duch_0 rfl rfl ?_
  refine wkP.aloadN 2 duch_1 rfl rfl rfl ?_
  refine wkP.callS 5 (M_uchk l Z a0 g _ d (u16 cs) i cs.length F (u16_len cs) hi) [(.int (Int32.ofNat i)), (.ref d)] [] 0 g.2.1 (w87 g.1) (w88 g.1) (w47 g.1) (w89 g.1) (by decide) duch_2 (lenOf pd12 rfl) rfl rfl rfl (by simp) (Nat.le_of_eq rfl) (by decide) (by decide) (by decide) (by decide) rfl ?_
  rintro v52 _ o52 ⟨rfl, rfl, rfl⟩ K52
  refine wkP.aloadN 6 duch_5 rfl rfl rfl ?_
  refine wkP.iloadN 7 duch_6 rfl rfl ?_
  refine wkP.callS 10 (M_getC l Z a0 g _ d cs i c F hc hch) [(.ref d), (.int (Int32.ofNat i))] [] 0 g.2.1 (w68 g.1) (w69 g.1) (w47 g.1) (w70 g.1) (by decide) duch_7 (lenOf pd5 rfl) rfl rfl rfl (by simp) (Nat.le_of_eq rfl) (by decide) (by decide) (by decide) (by decide) rfl ?_
  rintro v53 _ o53 ⟨rfl, rfl, rfl⟩ K53
  exact wkP.retI .char [] g.2.1 duch_10 rfl (by simp) (by show Value.int (nar .char c) = _; rw [nar_c hch]) (by decide) (by decide) (by simp) ⟨rfl, rfl, rfl⟩
abbrev rchAt : Room := { frames := 4, cells := 0, slots := 0, locals := 53 }
set_option maxRecDepth 65536 in
set_option maxHeartbeats 4000000 in
theorem M_chAt (l : Launch) (Z : State) (a0 : Array Value) (g : G Z a0) (h : Heap) (a b : Addr) (cs : List Int32) (F : St Z h a b cs) (i : Nat) (c : Int32) (hc : cs[i]? = some c) (hch : ¬ c < 0 ∧ ¬ 65535 < c) : wkM l Z bchAt rchAt #[.ref a, .int (Int32.ofNat i)] h [] (fun v h' os => v = some (.int c) ∧ os = [] ∧ h = h') := by
  refine wkM.of #[.val (.ref a), .val (.int (Int32.ofNat i))] (plainFor_of_name (by first | (simp [plainName, overriddenIn]; done) | decide +kernel)) (fun m => by first | rfl | (simp [entryFrame, mkF, argsToLocals, Value.category]; done)) ?_
  rcases F with F | F
  · refine wkP.aloadN 1 dchAt_0 rfl rfl rfl ?_
    refine wkP.callV 4 (M_isLatL l Z a0 g _ a b cs F) [] [] 0 g.2.1 F.1 (wkNFs (w82 g.1)) (w79 g.1) (w80 g.1) (w82 g.1) (w81 g.1) (w8 g.1) (w83 g.1) (by decide) dchAt_1 (lenOf pd13 rfl) rfl rfl rfl (by simp) (Nat.le_of_eq rfl) (by decide) (by decide) (by decide) (by decide) rfl ?_
    rintro v54 _ o54 ⟨rfl, rfl, rfl⟩ K54
    refine wkP.ifF 7 dchAt_4 (show ¬ ((1 : Int32) = (0 : Int32)) from (by decide)) rfl ?_
    refine wkP.aloadN 8 dchAt_7 rfl rfl rfl ?_
    refine wkP.getF 11 (w25 g.1) F.2.2.1 Via.refl dchAt_8 rfl ?_
    refine wkP.iloadN 12 dchAt_11 rfl rfl ?_
    refine wkP.callS 15 (M_lch l Z a0 g _ b cs i c F.2.2.2.1 hc (F.2.2.2.2 c (List.mem_of_getElem? hc))) [(.ref b), (.int (Int32.ofNat i))] [] 0 g.2.1 (w102 g.1) (w103 g.1) (w104 g.1) (w105 g.1) (by decide) dchAt_12 (lenOf pd5 rfl) rfl rfl rfl (by simp) (Nat.le_of_eq rfl) (by decide) (by decide) (by decide) (by decide) rfl ?_
    rintro v55 _ o55 ⟨rfl, rfl, rfl⟩ K55
    exact wkP.retI .char [] g.2.1 dchAt_15 rfl (by simp) (by show Value.int (nar .char c) = _; rw [nar_c hch]) (by decide) (by decide) (by simp) ⟨rfl, rfl, rfl⟩
  · refine wkP.aloadN 1 dchAt_0 rfl rfl rfl ?_
    refine wkP.callV 4 (M_isLatU l Z a0 g _ a b cs F) [] [] 0 g.2.1 F.1 (wkNFs (w82 g.1)) (w79 g.1) (w80 g.1) (w82 g.1) (w81 g.1) (w8 g.1) (w83 g.1) (by decide) dchAt_1 (lenOf pd13 rfl) rfl rfl rfl (by simp) (Nat.le_of_eq rfl) (by decide) (by decide) (by decide) (by decide) rfl ?_
    rintro v56 _ o56 ⟨rfl, rfl, rfl⟩ K56
    refine wkP.ifT 16 dchAt_4 (show (0 : Int32) = (0 : Int32) from (by decide)) (by decide) (by decide) ?_
    refine wkP.aloadN 17 dchAt_16 rfl rfl rfl ?_
    refine wkP.getF 20 (w25 g.1) F.2.2.1 Via.refl dchAt_17 rfl ?_
    refine wkP.iloadN 21 dchAt_20 rfl rfl ?_
    refine wkP.callS 24 (M_uch l Z a0 g _ b cs i c F.2.2.2.1 hc (F.2.2.2.2.1 c (List.mem_of_getElem? hc))) [(.ref b), (.int (Int32.ofNat i))] [] 0 g.2.1 (w84 g.1) (w85 g.1) (w47 g.1) (w86 g.1) (by decide) dchAt_21 (lenOf pd5 rfl) rfl rfl rfl (by simp) (Nat.le_of_eq rfl) (by decide) (by decide) (by decide) (by decide) rfl ?_
    rintro v57 _ o57 ⟨rfl, rfl, rfl⟩ K57
    exact wkP.retI .char [] g.2.1 dchAt_24 rfl (by simp) (by show Value.int (nar .char c) = _; rw [nar_c hch]) (by decide) (by decide) (by simp) ⟨rfl, rfl, rfl⟩
abbrev rtext : Room := { frames := 6, cells := 6, slots := 44, locals := 88 }
set_option maxRecDepth 65536 in
set_option maxHeartbeats 4000000 in
theorem M_text0 (l : Launch) (Z : State) (a0 : Array Value) (g : G Z a0) (h : Heap) (b : Addr) (c0 c1 c2 c3 c4 c5 c6 c7 c8 c9 : Int32) (F : Ia Z h b .char [c0, c1, c2, c3, c4, c5, c6, c7, c8, c9]) (hk : chs [c0, c1, c2, c3, c4, c5, c6, c7, c8, c9]) : wkM l Z btext rtext #[.ref b, .int 0] h [] (fun v h' os => ∃ s t, v = some (.ref s) ∧ os = [] ∧ St Z h' s t []) := by
  have hlb := F.lt
  refine wkM.of #[.val (.ref b), .val (.int (0 : Int32))] (plainFor_of_name (by first | (simp [plainName, overriddenIn]; done) | decide +kernel)) (fun m => by first | rfl | (simp [entryFrame, mkF, argsToLocals, Value.category]; done)) ?_
  refine wkP.iloadN 1 dtext_0 rfl rfl ?_
  refine wkP.ifF 4 dtext_1 (show ¬ (¬ (0 : Int32) = (0 : Int32)) from (by decide)) rfl ?_
  refine wkP.newO 7 (w6 g.1) (w7 g.1) (w8 g.1) dtext_4 (by decide) (by decide) rfl ?_
  intro h58 a58 g58 l58 K58 E58 D58 U58
  have z58 := K58.1
  have F59 := D58 (Or.inr (w22 g.1)) (ty := .byte) (by decide)
  have F60 := D58 (Or.inr (w21 g.1)) (ty := (.array .byte)) (by decide)
  refine wkP.dup 8 dtext_7 rfl rfl ?_
  refine wkP.iconst 9 (0 : Int32) dtext_8 rfl rfl ?_
  refine wkP.newP 11 .char 0 0 (w1 g.1) rfl rfl rfl dtext_9 rfl (by decide) (by decide) (by decide) (by decide) rfl ?_
  intro h61 a61 g61 l61 K61 A61
  have z61 := K61.1
  replace A61 : Ia Z h61 a61 .char [] := A61
  have hch : chs [] := by
    intro c hc
    simp only [List.mem_cons, List.not_mem_nil, or_false] at hc
  have E58_62 := (E58.keep K61)
  have F59_63 := (F59.keep K61 nn0)
  have F60_64 := (F60.keep K61 nn0)
  refine wkP.callI 14 (M_init1 l Z a0 g _ a58 a61 [] A61 hch (by simp) _ _ E58_62 F59_63 F60_64) [(.ref a61)] [(.ref a58)] 1 g.2.1 (w9 g.1) (w10 g.1) (w8 g.1) (w11 g.1) rfl rfl (by decide) dtext_11 (lenOf pd14 rfl) rfl rfl rfl (by simp) (Nat.le_of_eq rfl) (by decide) (by decide) (by decide) (by decide) rfl ?_
  rintro v65 h65 o65 ⟨d65, rfl, rfl, H65⟩ K65
  have z65 := K65.1
  exact wkP.retA (.object "java/lang/String") [] g.2.1 dtext_14 rfl rfl (by decide) (by decide) (by simp) ⟨a58, _, rfl, rfl, H65⟩
set_option maxRecDepth 65536 in
set_option maxHeartbeats 4000000 in
theorem M_text1 (l : Launch) (Z : State) (a0 : Array Value) (g : G Z a0) (h : Heap) (b : Addr) (c0 c1 c2 c3 c4 c5 c6 c7 c8 c9 : Int32) (F : Ia Z h b .char [c0, c1, c2, c3, c4, c5, c6, c7, c8, c9]) (hk : chs [c0, c1, c2, c3, c4, c5, c6, c7, c8, c9]) : wkM l Z btext rtext #[.ref b, .int 1] h [] (fun v h' os => ∃ s t, v = some (.ref s) ∧ os = [] ∧ St Z h' s t [c0]) := by
  have hlb := F.lt
  refine wkM.of #[.val (.ref b), .val (.int (1 : Int32))] (plainFor_of_name (by first | (simp [plainName, overriddenIn]; done) | decide +kernel)) (fun m => by first | rfl | (simp [entryFrame, mkF, argsToLocals, Value.category]; done)) ?_
  refine wkP.iloadN 1 dtext_0 rfl rfl ?_
  refine wkP.ifT 15 dtext_1 (show ¬ (1 : Int32) = (0 : Int32) from (by decide)) (by decide) (by decide) ?_
  refine wkP.iloadN 16 dtext_15 rfl rfl ?_
  refine wkP.iconst 17 (1 : Int32) dtext_16 rfl rfl ?_
  refine wkP.icmpF 20 dtext_17 (show ¬ (¬ (1 : Int32) = (1 : Int32)) from (by decide)) rfl ?_
  refine wkP.newO 23 (w6 g.1) (w7 g.1) (w8 g.1) dtext_20 (by decide) (by decide) rfl ?_
  intro h66 a66 g66 l66 K66 E66 D66 U66
  have z66 := K66.1
  have F67 := D66 (Or.inr (w22 g.1)) (ty := .byte) (by decide)
  have F68 := D66 (Or.inr (w21 g.1)) (ty := (.array .byte)) (by decide)
  refine wkP.dup 24 dtext_23 rfl rfl ?_
  refine wkP.iconst 25 (1 : Int32) dtext_24 rfl rfl ?_
  refine wkP.newP 27 .char 1 1 (w1 g.1) rfl rfl rfl dtext_25 rfl (by decide) (by decide) (by decide) (by decide) rfl ?_
  intro h69 a69 g69 l69 K69 A69
  have z69 := K69.1
  replace A69 : Ia Z h69 a69 .char [(0 : Int32)] := A69
  refine wkP.dup 28 dtext_27 rfl rfl ?_
  refine wkP.iconst 29 (0 : Int32) dtext_28 rfl rfl ?_
  refine wkP.aloadN 30 dtext_29 rfl rfl rfl ?_
  refine wkP.iconst 31 (0 : Int32) dtext_30 rfl rfl ?_
  have F_70 := ((F.keep K66 nn0).keep K69 nn0)
  refine wkP.caload 32 0 c0 F_70 dtext_31 rfl rfl rfl ?_
  refine wkP.stC 33 0 c0 A69 dtext_32 rfl (by simp) (nar_c (hk c0 (by simp))) (by simp) rfl ?_
  intro h71 K71 A71
  have z71 := K71.1
  replace A71 : Ia Z h71 a69 .char [c0] := A71
  have hch : chs [c0] := by
    intro c hc
    simp only [List.mem_cons, List.not_mem_nil, or_false] at hc
    rcases hc with rfl
    · exact hk _ (by simp)
  have E66_72 := ((E66.keep K69).keep K71)
  have F67_73 := ((F67.keep K69 nn0).keep K71 (nnS (by omega) nn0))
  have F68_74 := ((F68.keep K69 nn0).keep K71 (nnS (by omega) nn0))
  refine wkP.callI 36 (M_init1 l Z a0 g _ a66 a69 [c0] A71 hch (by simp) _ _ E66_72 F67_73 F68_74) [(.ref a69)] [(.ref a66)] 1 g.2.1 (w9 g.1) (w10 g.1) (w8 g.1) (w11 g.1) rfl rfl (by decide) dtext_33 (lenOf pd14 rfl) rfl rfl rfl (by simp) (Nat.le_of_eq rfl) (by decide) (by decide) (by decide) (by decide) rfl ?_
  rintro v75 h75 o75 ⟨d75, rfl, rfl, H75⟩ K75
  have z75 := K75.1
  exact wkP.retA (.object "java/lang/String") [] g.2.1 dtext_36 rfl rfl (by decide) (by decide) (by simp) ⟨a66, _, rfl, rfl, H75⟩
set_option maxRecDepth 65536 in
set_option maxHeartbeats 4000000 in
theorem M_text2 (l : Launch) (Z : State) (a0 : Array Value) (g : G Z a0) (h : Heap) (b : Addr) (c0 c1 c2 c3 c4 c5 c6 c7 c8 c9 : Int32) (F : Ia Z h b .char [c0, c1, c2, c3, c4, c5, c6, c7, c8, c9]) (hk : chs [c0, c1, c2, c3, c4, c5, c6, c7, c8, c9]) : wkM l Z btext rtext #[.ref b, .int 2] h [] (fun v h' os => ∃ s t, v = some (.ref s) ∧ os = [] ∧ St Z h' s t [c0, c1]) := by
  have hlb := F.lt
  refine wkM.of #[.val (.ref b), .val (.int (2 : Int32))] (plainFor_of_name (by first | (simp [plainName, overriddenIn]; done) | decide +kernel)) (fun m => by first | rfl | (simp [entryFrame, mkF, argsToLocals, Value.category]; done)) ?_
  refine wkP.iloadN 1 dtext_0 rfl rfl ?_
  refine wkP.ifT 15 dtext_1 (show ¬ (2 : Int32) = (0 : Int32) from (by decide)) (by decide) (by decide) ?_
  refine wkP.iloadN 16 dtext_15 rfl rfl ?_
  refine wkP.iconst 17 (1 : Int32) dtext_16 rfl rfl ?_
  refine wkP.icmpT 37 dtext_17 (show ¬ (2 : Int32) = (1 : Int32) from (by decide)) (by decide) (by decide) ?_
  refine wkP.iloadN 38 dtext_37 rfl rfl ?_
  refine wkP.iconst 39 (2 : Int32) dtext_38 rfl rfl ?_
  refine wkP.icmpF 42 dtext_39 (show ¬ (¬ (2 : Int32) = (2 : Int32)) from (by decide)) rfl ?_
  refine wkP.newO 45 (w6 g.1) (w7 g.1) (w8 g.1) dtext_42 (by decide) (by decide) rfl ?_
  intro h76 a76 g76 l76 K76 E76 D76 U76
  have z76 := K76.1
  have F77 := D76 (Or.inr (w22 g.1)) (ty := .byte) (by decide)
  have F78 := D76 (Or.inr (w21 g.1)) (ty := (.array .byte)) (by decide)
  refine wkP.dup 46 dtext_45 rfl rfl ?_
  refine wkP.iconst 47 (2 : Int32) dtext_46 rfl rfl ?_
  refine wkP.newP 49 .char 2 2 (w1 g.1) rfl rfl rfl dtext_47 rfl (by decide) (by decide) (by decide) (by decide) rfl ?_
  intro h79 a79 g79 l79 K79 A79
  have z79 := K79.1
  replace A79 : Ia Z h79 a79 .char [(0 : Int32), (0 : Int32)] := A79
  refine wkP.dup 50 dtext_49 rfl rfl ?_
  refine wkP.iconst 51 (0 : Int32) dtext_50 rfl rfl ?_
  refine wkP.aloadN 52 dtext_51 rfl rfl rfl ?_
  refine wkP.iconst 53 (0 : Int32) dtext_52 rfl rfl ?_
  have F_80 := ((F.keep K76 nn0).keep K79 nn0)
  refine wkP.caload 54 0 c0 F_80 dtext_53 rfl rfl rfl ?_
  refine wkP.stC 55 0 c0 A79 dtext_54 rfl (by simp) (nar_c (hk c0 (by simp))) (by simp) rfl ?_
  intro h81 K81 A81
  have z81 := K81.1
  replace A81 : Ia Z h81 a79 .char [c0, (0 : Int32)] := A81
  refine wkP.dup 56 dtext_55 rfl rfl ?_
  refine wkP.iconst 57 (1 : Int32) dtext_56 rfl rfl ?_
  refine wkP.aloadN 58 dtext_57 rfl rfl rfl ?_
  refine wkP.iconst 59 (1 : Int32) dtext_58 rfl rfl ?_
  have F_82 := (F_80.keep K81 (nnS (by omega) nn0))
  refine wkP.caload 60 1 c1 F_82 dtext_59 rfl rfl rfl ?_
  refine wkP.stC 61 1 c1 A81 dtext_60 rfl (by simp) (nar_c (hk c1 (by simp))) (by simp) rfl ?_
  intro h83 K83 A83
  have z83 := K83.1
  replace A83 : Ia Z h83 a79 .char [c0, c1] := A83
  have hch : chs [c0, c1] := by
    intro c hc
    simp only [List.mem_cons, List.not_mem_nil, or_false] at hc
    rcases hc with rfl | rfl
    · exact hk _ (by simp)
    · exact hk _ (by simp)
  have E76_84 := (((E76.keep K79).keep K81).keep K83)
  have F77_85 := (((F77.keep K79 nn0).keep K81 (nnS (by omega) nn0)).keep K83 (nnS (by omega) nn0))
  have F78_86 := (((F78.keep K79 nn0).keep K81 (nnS (by omega) nn0)).keep K83 (nnS (by omega) nn0))
  refine wkP.callI 64 (M_init1 l Z a0 g _ a76 a79 [c0, c1] A83 hch (by simp) _ _ E76_84 F77_85 F78_86) [(.ref a79)] [(.ref a76)] 1 g.2.1 (w9 g.1) (w10 g.1) (w8 g.1) (w11 g.1) rfl rfl (by decide) dtext_61 (lenOf pd14 rfl) rfl rfl rfl (by simp) (Nat.le_of_eq rfl) (by decide) (by decide) (by decide) (by decide) rfl ?_
  rintro v87 h87 o87 ⟨d87, rfl, rfl, H87⟩ K87
  have z87 := K87.1
  exact wkP.retA (.object "java/lang/String") [] g.2.1 dtext_64 rfl rfl (by decide) (by decide) (by simp) ⟨a76, _, rfl, rfl, H87⟩
set_option maxRecDepth 65536 in
set_option maxHeartbeats 4000000 in
theorem M_text3 (l : Launch) (Z : State) (a0 : Array Value) (g : G Z a0) (h : Heap) (b : Addr) (c0 c1 c2 c3 c4 c5 c6 c7 c8 c9 : Int32) (F : Ia Z h b .char [c0, c1, c2, c3, c4, c5, c6, c7, c8, c9]) (hk : chs [c0, c1, c2, c3, c4, c5, c6, c7, c8, c9]) : wkM l Z btext rtext #[.ref b, .int 3] h [] (fun v h' os => ∃ s t, v = some (.ref s) ∧ os = [] ∧ St Z h' s t [c0, c1, c2]) := by
  have hlb := F.lt
  refine wkM.of #[.val (.ref b), .val (.int (3 : Int32))] (plainFor_of_name (by first | (simp [plainName, overriddenIn]; done) | decide +kernel)) (fun m => by first | rfl | (simp [entryFrame, mkF, argsToLocals, Value.category]; done)) ?_
  refine wkP.iloadN 1 dtext_0 rfl rfl ?_
  refine wkP.ifT 15 dtext_1 (show ¬ (3 : Int32) = (0 : Int32) from (by decide)) (by decide) (by decide) ?_
  refine wkP.iloadN 16 dtext_15 rfl rfl ?_
  refine wkP.iconst 17 (1 : Int32) dtext_16 rfl rfl ?_
  refine wkP.icmpT 37 dtext_17 (show ¬ (3 : Int32) = (1 : Int32) from (by decide)) (by decide) (by decide) ?_
  refine wkP.iloadN 38 dtext_37 rfl rfl ?_
  refine wkP.iconst 39 (2 : Int32) dtext_38 rfl rfl ?_
  refine wkP.icmpT 65 dtext_39 (show ¬ (3 : Int32) = (2 : Int32) from (by decide)) (by decide) (by decide) ?_
  refine wkP.iloadN 66 dtext_65 rfl rfl ?_
  refine wkP.iconst 67 (3 : Int32) dtext_66 rfl rfl ?_
  refine wkP.icmpF 70 dtext_67 (show ¬ (¬ (3 : Int32) = (3 : Int32)) from (by decide)) rfl ?_
  refine wkP.newO 73 (w6 g.1) (w7 g.1) (w8 g.1) dtext_70 (by decide) (by decide) rfl ?_
  intro h88 a88 g88 l88 K88 E88 D88 U88
  have z88 := K88.1
  have F89 := D88 (Or.inr (w22 g.1)) (ty := .byte) (by decide)
  have F90 := D88 (Or.inr (w21 g.1)) (ty := (.array .byte)) (by decide)
  refine wkP.dup 74 dtext_73 rfl rfl ?_
  refine wkP.iconst 75 (3 : Int32) dtext_74 rfl rfl ?_
  refine wkP.newP 77 .char 3 3 (w1 g.1) rfl rfl rfl dtext_75 rfl (by decide) (by decide) (by decide) (by decide) rfl ?_
  intro h91 a91 g91 l91 K91 A91
  have z91 := K91.1
  replace A91 : Ia Z h91 a91 .char [(0 : Int32), (0 : Int32), (0 : Int32)] := A91
  refine wkP.dup 78 dtext_77 rfl rfl ?_
  refine wkP.iconst 79 (0 : Int32) dtext_78 rfl rfl ?_
  refine wkP.aloadN 80 dtext_79 rfl rfl rfl ?_
  refine wkP.iconst 81 (0 : Int32) dtext_80 rfl rfl ?_
  have F_92 := ((F.keep K88 nn0).keep K91 nn0)
  refine wkP.caload 82 0 c0 F_92 dtext_81 rfl rfl rfl ?_
  refine wkP.stC 83 0 c0 A91 dtext_82 rfl (by simp) (nar_c (hk c0 (by simp))) (by simp) rfl ?_
  intro h93 K93 A93
  have z93 := K93.1
  replace A93 : Ia Z h93 a91 .char [c0, (0 : Int32), (0 : Int32)] := A93
  refine wkP.dup 84 dtext_83 rfl rfl ?_
  refine wkP.iconst 85 (1 : Int32) dtext_84 rfl rfl ?_
  refine wkP.aloadN 86 dtext_85 rfl rfl rfl ?_
  refine wkP.iconst 87 (1 : Int32) dtext_86 rfl rfl ?_
  have F_94 := (F_92.keep K93 (nnS (by omega) nn0))
  refine wkP.caload 88 1 c1 F_94 dtext_87 rfl rfl rfl ?_
  refine wkP.stC 89 1 c1 A93 dtext_88 rfl (by simp) (nar_c (hk c1 (by simp))) (by simp) rfl ?_
  intro h95 K95 A95
  have z95 := K95.1
  replace A95 : Ia Z h95 a91 .char [c0, c1, (0 : Int32)] := A95
  refine wkP.dup 90 dtext_89 rfl rfl ?_
  refine wkP.iconst 91 (2 : Int32) dtext_90 rfl rfl ?_
  refine wkP.aloadN 92 dtext_91 rfl rfl rfl ?_
  refine wkP.iconst 93 (2 : Int32) dtext_92 rfl rfl ?_
  have F_96 := (F_94.keep K95 (nnS (by omega) nn0))
  refine wkP.caload 94 2 c2 F_96 dtext_93 rfl rfl rfl ?_
  refine wkP.stC 95 2 c2 A95 dtext_94 rfl (by simp) (nar_c (hk c2 (by simp))) (by simp) rfl ?_
  intro h97 K97 A97
  have z97 := K97.1
  replace A97 : Ia Z h97 a91 .char [c0, c1, c2] := A97
  have hch : chs [c0, c1, c2] := by
    intro c hc
    simp only [List.mem_cons, List.not_mem_nil, or_false] at hc
    rcases hc with rfl | rfl | rfl
    · exact hk _ (by simp)
    · exact hk _ (by simp)
    · exact hk _ (by simp)
  have E88_98 := ((((E88.keep K91).keep K93).keep K95).keep K97)
  have F89_99 := ((((F89.keep K91 nn0).keep K93 (nnS (by omega) nn0)).keep K95 (nnS (by omega) nn0)).keep K97 (nnS (by omega) nn0))
  have F90_100 := ((((F90.keep K91 nn0).keep K93 (nnS (by omega) nn0)).keep K95 (nnS (by omega) nn0)).keep K97 (nnS (by omega) nn0))
  refine wkP.callI 98 (M_init1 l Z a0 g _ a88 a91 [c0, c1, c2] A97 hch (by simp) _ _ E88_98 F89_99 F90_100) [(.ref a91)] [(.ref a88)] 1 g.2.1 (w9 g.1) (w10 g.1) (w8 g.1) (w11 g.1) rfl rfl (by decide) dtext_95 (lenOf pd14 rfl) rfl rfl rfl (by simp) (Nat.le_of_eq rfl) (by decide) (by decide) (by decide) (by decide) rfl ?_
  rintro v101 h101 o101 ⟨d101, rfl, rfl, H101⟩ K101
  have z101 := K101.1
  exact wkP.retA (.object "java/lang/String") [] g.2.1 dtext_98 rfl rfl (by decide) (by decide) (by simp) ⟨a88, _, rfl, rfl, H101⟩
set_option maxRecDepth 65536 in
set_option maxHeartbeats 4000000 in
theorem M_text4 (l : Launch) (Z : State) (a0 : Array Value) (g : G Z a0) (h : Heap) (b : Addr) (c0 c1 c2 c3 c4 c5 c6 c7 c8 c9 : Int32) (F : Ia Z h b .char [c0, c1, c2, c3, c4, c5, c6, c7, c8, c9]) (hk : chs [c0, c1, c2, c3, c4, c5, c6, c7, c8, c9]) : wkM l Z btext rtext #[.ref b, .int 4] h [] (fun v h' os => ∃ s t, v = some (.ref s) ∧ os = [] ∧ St Z h' s t [c0, c1, c2, c3]) := by
  have hlb := F.lt
  refine wkM.of #[.val (.ref b), .val (.int (4 : Int32))] (plainFor_of_name (by first | (simp [plainName, overriddenIn]; done) | decide +kernel)) (fun m => by first | rfl | (simp [entryFrame, mkF, argsToLocals, Value.category]; done)) ?_
  refine wkP.iloadN 1 dtext_0 rfl rfl ?_
  refine wkP.ifT 15 dtext_1 (show ¬ (4 : Int32) = (0 : Int32) from (by decide)) (by decide) (by decide) ?_
  refine wkP.iloadN 16 dtext_15 rfl rfl ?_
  refine wkP.iconst 17 (1 : Int32) dtext_16 rfl rfl ?_
  refine wkP.icmpT 37 dtext_17 (show ¬ (4 : Int32) = (1 : Int32) from (by decide)) (by decide) (by decide) ?_
  refine wkP.iloadN 38 dtext_37 rfl rfl ?_
  refine wkP.iconst 39 (2 : Int32) dtext_38 rfl rfl ?_
  refine wkP.icmpT 65 dtext_39 (show ¬ (4 : Int32) = (2 : Int32) from (by decide)) (by decide) (by decide) ?_
  refine wkP.iloadN 66 dtext_65 rfl rfl ?_
  refine wkP.iconst 67 (3 : Int32) dtext_66 rfl rfl ?_
  refine wkP.icmpT 99 dtext_67 (show ¬ (4 : Int32) = (3 : Int32) from (by decide)) (by decide) (by decide) ?_
  refine wkP.iloadN 100 dtext_99 rfl rfl ?_
  refine wkP.iconst 101 (4 : Int32) dtext_100 rfl rfl ?_
  refine wkP.icmpF 104 dtext_101 (show ¬ (¬ (4 : Int32) = (4 : Int32)) from (by decide)) rfl ?_
  refine wkP.newO 107 (w6 g.1) (w7 g.1) (w8 g.1) dtext_104 (by decide) (by decide) rfl ?_
  intro h102 a102 g102 l102 K102 E102 D102 U102
  have z102 := K102.1
  have F103 := D102 (Or.inr (w22 g.1)) (ty := .byte) (by decide)
  have F104 := D102 (Or.inr (w21 g.1)) (ty := (.array .byte)) (by decide)
  refine wkP.dup 108 dtext_107 rfl rfl ?_
  refine wkP.iconst 109 (4 : Int32) dtext_108 rfl rfl ?_
  refine wkP.newP 111 .char 4 4 (w1 g.1) rfl rfl rfl dtext_109 rfl (by decide) (by decide) (by decide) (by decide) rfl ?_
  intro h105 a105 g105 l105 K105 A105
  have z105 := K105.1
  replace A105 : Ia Z h105 a105 .char [(0 : Int32), (0 : Int32), (0 : Int32), (0 : Int32)] := A105
  refine wkP.dup 112 dtext_111 rfl rfl ?_
  refine wkP.iconst 113 (0 : Int32) dtext_112 rfl rfl ?_
  refine wkP.aloadN 114 dtext_113 rfl rfl rfl ?_
  refine wkP.iconst 115 (0 : Int32) dtext_114 rfl rfl ?_
  have F_106 := ((F.keep K102 nn0).keep K105 nn0)
  refine wkP.caload 116 0 c0 F_106 dtext_115 rfl rfl rfl ?_
  refine wkP.stC 117 0 c0 A105 dtext_116 rfl (by simp) (nar_c (hk c0 (by simp))) (by simp) rfl ?_
  intro h107 K107 A107
  have z107 := K107.1
  replace A107 : Ia Z h107 a105 .char [c0, (0 : Int32), (0 : Int32), (0 : Int32)] := A107
  refine wkP.dup 118 dtext_117 rfl rfl ?_
  refine wkP.iconst 119 (1 : Int32) dtext_118 rfl rfl ?_
  refine wkP.aloadN 120 dtext_119 rfl rfl rfl ?_
  refine wkP.iconst 121 (1 : Int32) dtext_120 rfl rfl ?_
  have F_108 := (F_106.keep K107 (nnS (by omega) nn0))
  refine wkP.caload 122 1 c1 F_108 dtext_121 rfl rfl rfl ?_
  refine wkP.stC 123 1 c1 A107 dtext_122 rfl (by simp) (nar_c (hk c1 (by simp))) (by simp) rfl ?_
  intro h109 K109 A109
  have z109 := K109.1
  replace A109 : Ia Z h109 a105 .char [c0, c1, (0 : Int32), (0 : Int32)] := A109
  refine wkP.dup 124 dtext_123 rfl rfl ?_
  refine wkP.iconst 125 (2 : Int32) dtext_124 rfl rfl ?_
  refine wkP.aloadN 126 dtext_125 rfl rfl rfl ?_
  refine wkP.iconst 127 (2 : Int32) dtext_126 rfl rfl ?_
  have F_110 := (F_108.keep K109 (nnS (by omega) nn0))
  refine wkP.caload 128 2 c2 F_110 dtext_127 rfl rfl rfl ?_
  refine wkP.stC 129 2 c2 A109 dtext_128 rfl (by simp) (nar_c (hk c2 (by simp))) (by simp) rfl ?_
  intro h111 K111 A111
  have z111 := K111.1
  replace A111 : Ia Z h111 a105 .char [c0, c1, c2, (0 : Int32)] := A111
  refine wkP.dup 130 dtext_129 rfl rfl ?_
  refine wkP.iconst 131 (3 : Int32) dtext_130 rfl rfl ?_
  refine wkP.aloadN 132 dtext_131 rfl rfl rfl ?_
  refine wkP.iconst 133 (3 : Int32) dtext_132 rfl rfl ?_
  have F_112 := (F_110.keep K111 (nnS (by omega) nn0))
  refine wkP.caload 134 3 c3 F_112 dtext_133 rfl rfl rfl ?_
  refine wkP.stC 135 3 c3 A111 dtext_134 rfl (by simp) (nar_c (hk c3 (by simp))) (by simp) rfl ?_
  intro h113 K113 A113
  have z113 := K113.1
  replace A113 : Ia Z h113 a105 .char [c0, c1, c2, c3] := A113
  have hch : chs [c0, c1, c2, c3] := by
    intro c hc
    simp only [List.mem_cons, List.not_mem_nil, or_false] at hc
    rcases hc with rfl | rfl | rfl | rfl
    · exact hk _ (by simp)
    · exact hk _ (by simp)
    · exact hk _ (by simp)
    · exact hk _ (by simp)
  have E102_114 := (((((E102.keep K105).keep K107).keep K109).keep K111).keep K113)
  have F103_115 := (((((F103.keep K105 nn0).keep K107 (nnS (by omega) nn0)).keep K109 (nnS (by omega) nn0)).keep K111 (nnS (by omega) nn0)).keep K113 (nnS (by omega) nn0))
  have F104_116 := (((((F104.keep K105 nn0).keep K107 (nnS (by omega) nn0)).keep K109 (nnS (by omega) nn0)).keep K111 (nnS (by omega) nn0)).keep K113 (nnS (by omega) nn0))
  refine wkP.callI 138 (M_init1 l Z a0 g _ a102 a105 [c0, c1, c2, c3] A113 hch (by simp) _ _ E102_114 F103_115 F104_116) [(.ref a105)] [(.ref a102)] 1 g.2.1 (w9 g.1) (w10 g.1) (w8 g.1) (w11 g.1) rfl rfl (by decide) dtext_135 (lenOf pd14 rfl) rfl rfl rfl (by simp) (Nat.le_of_eq rfl) (by decide) (by decide) (by decide) (by decide) rfl ?_
  rintro v117 h117 o117 ⟨d117, rfl, rfl, H117⟩ K117
  have z117 := K117.1
  exact wkP.retA (.object "java/lang/String") [] g.2.1 dtext_138 rfl rfl (by decide) (by decide) (by simp) ⟨a102, _, rfl, rfl, H117⟩
set_option maxRecDepth 65536 in
set_option maxHeartbeats 4000000 in
theorem M_text5 (l : Launch) (Z : State) (a0 : Array Value) (g : G Z a0) (h : Heap) (b : Addr) (c0 c1 c2 c3 c4 c5 c6 c7 c8 c9 : Int32) (F : Ia Z h b .char [c0, c1, c2, c3, c4, c5, c6, c7, c8, c9]) (hk : chs [c0, c1, c2, c3, c4, c5, c6, c7, c8, c9]) : wkM l Z btext rtext #[.ref b, .int 5] h [] (fun v h' os => ∃ s t, v = some (.ref s) ∧ os = [] ∧ St Z h' s t [c0, c1, c2, c3, c4]) := by
  have hlb := F.lt
  refine wkM.of #[.val (.ref b), .val (.int (5 : Int32))] (plainFor_of_name (by first | (simp [plainName, overriddenIn]; done) | decide +kernel)) (fun m => by first | rfl | (simp [entryFrame, mkF, argsToLocals, Value.category]; done)) ?_
  refine wkP.iloadN 1 dtext_0 rfl rfl ?_
  refine wkP.ifT 15 dtext_1 (show ¬ (5 : Int32) = (0 : Int32) from (by decide)) (by decide) (by decide) ?_
  refine wkP.iloadN 16 dtext_15 rfl rfl ?_
  refine wkP.iconst 17 (1 : Int32) dtext_16 rfl rfl ?_
  refine wkP.icmpT 37 dtext_17 (show ¬ (5 : Int32) = (1 : Int32) from (by decide)) (by decide) (by decide) ?_
  refine wkP.iloadN 38 dtext_37 rfl rfl ?_
  refine wkP.iconst 39 (2 : Int32) dtext_38 rfl rfl ?_
  refine wkP.icmpT 65 dtext_39 (show ¬ (5 : Int32) = (2 : Int32) from (by decide)) (by decide) (by decide) ?_
  refine wkP.iloadN 66 dtext_65 rfl rfl ?_
  refine wkP.iconst 67 (3 : Int32) dtext_66 rfl rfl ?_
  refine wkP.icmpT 99 dtext_67 (show ¬ (5 : Int32) = (3 : Int32) from (by decide)) (by decide) (by decide) ?_
  refine wkP.iloadN 100 dtext_99 rfl rfl ?_
  refine wkP.iconst 101 (4 : Int32) dtext_100 rfl rfl ?_
  refine wkP.icmpT 139 dtext_101 (show ¬ (5 : Int32) = (4 : Int32) from (by decide)) (by decide) (by decide) ?_
  refine wkP.iloadN 140 dtext_139 rfl rfl ?_
  refine wkP.iconst 141 (5 : Int32) dtext_140 rfl rfl ?_
  refine wkP.icmpF 144 dtext_141 (show ¬ (¬ (5 : Int32) = (5 : Int32)) from (by decide)) rfl ?_
  refine wkP.newO 147 (w6 g.1) (w7 g.1) (w8 g.1) dtext_144 (by decide) (by decide) rfl ?_
  intro h118 a118 g118 l118 K118 E118 D118 U118
  have z118 := K118.1
  have F119 := D118 (Or.inr (w22 g.1)) (ty := .byte) (by decide)
  have F120 := D118 (Or.inr (w21 g.1)) (ty := (.array .byte)) (by decide)
  refine wkP.dup 148 dtext_147 rfl rfl ?_
  refine wkP.iconst 149 (5 : Int32) dtext_148 rfl rfl ?_
  refine wkP.newP 151 .char 5 5 (w1 g.1) rfl rfl rfl dtext_149 rfl (by decide) (by decide) (by decide) (by decide) rfl ?_
  intro h121 a121 g121 l121 K121 A121
  have z121 := K121.1
  replace A121 : Ia Z h121 a121 .char [(0 : Int32), (0 : Int32), (0 : Int32), (0 : Int32), (0 : Int32)] := A121
  refine wkP.dup 152 dtext_151 rfl rfl ?_
  refine wkP.iconst 153 (0 : Int32) dtext_152 rfl rfl ?_
  refine wkP.aloadN 154 dtext_153 rfl rfl rfl ?_
  refine wkP.iconst 155 (0 : Int32) dtext_154 rfl rfl ?_
  have F_122 := ((F.keep K118 nn0).keep K121 nn0)
  refine wkP.caload 156 0 c0 F_122 dtext_155 rfl rfl rfl ?_
  refine wkP.stC 157 0 c0 A121 dtext_156 rfl (by simp) (nar_c (hk c0 (by simp))) (by simp) rfl ?_
  intro h123 K123 A123
  have z123 := K123.1
  replace A123 : Ia Z h123 a121 .char [c0, (0 : Int32), (0 : Int32), (0 : Int32), (0 : Int32)] := A123
  refine wkP.dup 158 dtext_157 rfl rfl ?_
  refine wkP.iconst 159 (1 : Int32) dtext_158 rfl rfl ?_
  refine wkP.aloadN 160 dtext_159 rfl rfl rfl ?_
  refine wkP.iconst 161 (1 : Int32) dtext_160 rfl rfl ?_
  have F_124 := (F_122.keep K123 (nnS (by omega) nn0))
  refine wkP.caload 162 1 c1 F_124 dtext_161 rfl rfl rfl ?_
  refine wkP.stC 163 1 c1 A123 dtext_162 rfl (by simp) (nar_c (hk c1 (by simp))) (by simp) rfl ?_
  intro h125 K125 A125
  have z125 := K125.1
  replace A125 : Ia Z h125 a121 .char [c0, c1, (0 : Int32), (0 : Int32), (0 : Int32)] := A125
  refine wkP.dup 164 dtext_163 rfl rfl ?_
  refine wkP.iconst 165 (2 : Int32) dtext_164 rfl rfl ?_
  refine wkP.aloadN 166 dtext_165 rfl rfl rfl ?_
  refine wkP.iconst 167 (2 : Int32) dtext_166 rfl rfl ?_
  have F_126 := (F_124.keep K125 (nnS (by omega) nn0))
  refine wkP.caload 168 2 c2 F_126 dtext_167 rfl rfl rfl ?_
  refine wkP.stC 169 2 c2 A125 dtext_168 rfl (by simp) (nar_c (hk c2 (by simp))) (by simp) rfl ?_
  intro h127 K127 A127
  have z127 := K127.1
  replace A127 : Ia Z h127 a121 .char [c0, c1, c2, (0 : Int32), (0 : Int32)] := A127
  refine wkP.dup 170 dtext_169 rfl rfl ?_
  refine wkP.iconst 171 (3 : Int32) dtext_170 rfl rfl ?_
  refine wkP.aloadN 172 dtext_171 rfl rfl rfl ?_
  refine wkP.iconst 173 (3 : Int32) dtext_172 rfl rfl ?_
  have F_128 := (F_126.keep K127 (nnS (by omega) nn0))
  refine wkP.caload 174 3 c3 F_128 dtext_173 rfl rfl rfl ?_
  refine wkP.stC 175 3 c3 A127 dtext_174 rfl (by simp) (nar_c (hk c3 (by simp))) (by simp) rfl ?_
  intro h129 K129 A129
  have z129 := K129.1
  replace A129 : Ia Z h129 a121 .char [c0, c1, c2, c3, (0 : Int32)] := A129
  refine wkP.dup 176 dtext_175 rfl rfl ?_
  refine wkP.iconst 177 (4 : Int32) dtext_176 rfl rfl ?_
  refine wkP.aloadN 178 dtext_177 rfl rfl rfl ?_
  refine wkP.iconst 179 (4 : Int32) dtext_178 rfl rfl ?_
  have F_130 := (F_128.keep K129 (nnS (by omega) nn0))
  refine wkP.caload 180 4 c4 F_130 dtext_179 rfl rfl rfl ?_
  refine wkP.stC 181 4 c4 A129 dtext_180 rfl (by simp) (nar_c (hk c4 (by simp))) (by simp) rfl ?_
  intro h131 K131 A131
  have z131 := K131.1
  replace A131 : Ia Z h131 a121 .char [c0, c1, c2, c3, c4] := A131
  have hch : chs [c0, c1, c2, c3, c4] := by
    intro c hc
    simp only [List.mem_cons, List.not_mem_nil, or_false] at hc
    rcases hc with rfl | rfl | rfl | rfl | rfl
    · exact hk _ (by simp)
    · exact hk _ (by simp)
    · exact hk _ (by simp)
    · exact hk _ (by simp)
    · exact hk _ (by simp)
  have E118_132 := ((((((E118.keep K121).keep K123).keep K125).keep K127).keep K129).keep K131)
  have F119_133 := ((((((F119.keep K121 nn0).keep K123 (nnS (by omega) nn0)).keep K125 (nnS (by omega) nn0)).keep K127 (nnS (by omega) nn0)).keep K129 (nnS (by omega) nn0)).keep K131 (nnS (by omega) nn0))
  have F120_134 := ((((((F120.keep K121 nn0).keep K123 (nnS (by omega) nn0)).keep K125 (nnS (by omega) nn0)).keep K127 (nnS (by omega) nn0)).keep K129 (nnS (by omega) nn0)).keep K131 (nnS (by omega) nn0))
  refine wkP.callI 184 (M_init1 l Z a0 g _ a118 a121 [c0, c1, c2, c3, c4] A131 hch (by simp) _ _ E118_132 F119_133 F120_134) [(.ref a121)] [(.ref a118)] 1 g.2.1 (w9 g.1) (w10 g.1) (w8 g.1) (w11 g.1) rfl rfl (by decide) dtext_181 (lenOf pd14 rfl) rfl rfl rfl (by simp) (Nat.le_of_eq rfl) (by decide) (by decide) (by decide) (by decide) rfl ?_
  rintro v135 h135 o135 ⟨d135, rfl, rfl, H135⟩ K135
  have z135 := K135.1
  exact wkP.retA (.object "java/lang/String") [] g.2.1 dtext_184 rfl rfl (by decide) (by decide) (by simp) ⟨a118, _, rfl, rfl, H135⟩
set_option maxRecDepth 65536 in
set_option maxHeartbeats 4000000 in
theorem M_text6 (l : Launch) (Z : State) (a0 : Array Value) (g : G Z a0) (h : Heap) (b : Addr) (c0 c1 c2 c3 c4 c5 c6 c7 c8 c9 : Int32) (F : Ia Z h b .char [c0, c1, c2, c3, c4, c5, c6, c7, c8, c9]) (hk : chs [c0, c1, c2, c3, c4, c5, c6, c7, c8, c9]) : wkM l Z btext rtext #[.ref b, .int 6] h [] (fun v h' os => ∃ s t, v = some (.ref s) ∧ os = [] ∧ St Z h' s t [c0, c1, c2, c3, c4, c5]) := by
  have hlb := F.lt
  refine wkM.of #[.val (.ref b), .val (.int (6 : Int32))] (plainFor_of_name (by first | (simp [plainName, overriddenIn]; done) | decide +kernel)) (fun m => by first | rfl | (simp [entryFrame, mkF, argsToLocals, Value.category]; done)) ?_
  refine wkP.iloadN 1 dtext_0 rfl rfl ?_
  refine wkP.ifT 15 dtext_1 (show ¬ (6 : Int32) = (0 : Int32) from (by decide)) (by decide) (by decide) ?_
  refine wkP.iloadN 16 dtext_15 rfl rfl ?_
  refine wkP.iconst 17 (1 : Int32) dtext_16 rfl rfl ?_
  refine wkP.icmpT 37 dtext_17 (show ¬ (6 : Int32) = (1 : Int32) from (by decide)) (by decide) (by decide) ?_
  refine wkP.iloadN 38 dtext_37 rfl rfl ?_
  refine wkP.iconst 39 (2 : Int32) dtext_38 rfl rfl ?_
  refine wkP.icmpT 65 dtext_39 (show ¬ (6 : Int32) = (2 : Int32) from (by decide)) (by decide) (by decide) ?_
  refine wkP.iloadN 66 dtext_65 rfl rfl ?_
  refine wkP.iconst 67 (3 : Int32) dtext_66 rfl rfl ?_
  refine wkP.icmpT 99 dtext_67 (show ¬ (6 : Int32) = (3 : Int32) from (by decide)) (by decide) (by decide) ?_
  refine wkP.iloadN 100 dtext_99 rfl rfl ?_
  refine wkP.iconst 101 (4 : Int32) dtext_100 rfl rfl ?_
  refine wkP.icmpT 139 dtext_101 (show ¬ (6 : Int32) = (4 : Int32) from (by decide)) (by decide) (by decide) ?_
  refine wkP.iloadN 140 dtext_139 rfl rfl ?_
  refine wkP.iconst 141 (5 : Int32) dtext_140 rfl rfl ?_
  refine wkP.icmpT 185 dtext_141 (show ¬ (6 : Int32) = (5 : Int32) from (by decide)) (by decide) (by decide) ?_
  refine wkP.iloadN 186 dtext_185 rfl rfl ?_
  refine wkP.bipush 188 (6 : Int32) dtext_186 rfl rfl ?_
  refine wkP.icmpF 191 dtext_188 (show ¬ (¬ (6 : Int32) = (6 : Int32)) from (by decide)) rfl ?_
  refine wkP.newO 194 (w6 g.1) (w7 g.1) (w8 g.1) dtext_191 (by decide) (by decide) rfl ?_
  intro h136 a136 g136 l136 K136 E136 D136 U136
  have z136 := K136.1
  have F137 := D136 (Or.inr (w22 g.1)) (ty := .byte) (by decide)
  have F138 := D136 (Or.inr (w21 g.1)) (ty := (.array .byte)) (by decide)
  refine wkP.dup 195 dtext_194 rfl rfl ?_
  refine wkP.bipush 197 (6 : Int32) dtext_195 rfl rfl ?_
  refine wkP.newP 199 .char 6 6 (w1 g.1) rfl rfl rfl dtext_197 rfl (by decide) (by decide) (by decide) (by decide) rfl ?_
  intro h139 a139 g139 l139 K139 A139
  have z139 := K139.1
  replace A139 : Ia Z h139 a139 .char [(0 : Int32), (0 : Int32), (0 : Int32), (0 : Int32), (0 : Int32), (0 : Int32)] := A139
  refine wkP.dup 200 dtext_199 rfl rfl ?_
  refine wkP.iconst 201 (0 : Int32) dtext_200 rfl rfl ?_
  refine wkP.aloadN 202 dtext_201 rfl rfl rfl ?_
  refine wkP.iconst 203 (0 : Int32) dtext_202 rfl rfl ?_
  have F_140 := ((F.keep K136 nn0).keep K139 nn0)
  refine wkP.caload 204 0 c0 F_140 dtext_203 rfl rfl rfl ?_
  refine wkP.stC 205 0 c0 A139 dtext_204 rfl (by simp) (nar_c (hk c0 (by simp))) (by simp) rfl ?_
  intro h141 K141 A141
  have z141 := K141.1
  replace A141 : Ia Z h141 a139 .char [c0, (0 : Int32), (0 : Int32), (0 : Int32), (0 : Int32), (0 : Int32)] := A141
  refine wkP.dup 206 dtext_205 rfl rfl ?_
  refine wkP.iconst 207 (1 : Int32) dtext_206 rfl rfl ?_
  refine wkP.aloadN 208 dtext_207 rfl rfl rfl ?_
  refine wkP.iconst 209 (1 : Int32) dtext_208 rfl rfl ?_
  have F_142 := (F_140.keep K141 (nnS (by omega) nn0))
  refine wkP.caload 210 1 c1 F_142 dtext_209 rfl rfl rfl ?_
  refine wkP.stC 211 1 c1 A141 dtext_210 rfl (by simp) (nar_c (hk c1 (by simp))) (by simp) rfl ?_
  intro h143 K143 A143
  have z143 := K143.1
  replace A143 : Ia Z h143 a139 .char [c0, c1, (0 : Int32), (0 : Int32), (0 : Int32), (0 : Int32)] := A143
  refine wkP.dup 212 dtext_211 rfl rfl ?_
  refine wkP.iconst 213 (2 : Int32) dtext_212 rfl rfl ?_
  refine wkP.aloadN 214 dtext_213 rfl rfl rfl ?_
  refine wkP.iconst 215 (2 : Int32) dtext_214 rfl rfl ?_
  have F_144 := (F_142.keep K143 (nnS (by omega) nn0))
  refine wkP.caload 216 2 c2 F_144 dtext_215 rfl rfl rfl ?_
  refine wkP.stC 217 2 c2 A143 dtext_216 rfl (by simp) (nar_c (hk c2 (by simp))) (by simp) rfl ?_
  intro h145 K145 A145
  have z145 := K145.1
  replace A145 : Ia Z h145 a139 .char [c0, c1, c2, (0 : Int32), (0 : Int32), (0 : Int32)] := A145
  refine wkP.dup 218 dtext_217 rfl rfl ?_
  refine wkP.iconst 219 (3 : Int32) dtext_218 rfl rfl ?_
  refine wkP.aloadN 220 dtext_219 rfl rfl rfl ?_
  refine wkP.iconst 221 (3 : Int32) dtext_220 rfl rfl ?_
  have F_146 := (F_144.keep K145 (nnS (by omega) nn0))
  refine wkP.caload 222 3 c3 F_146 dtext_221 rfl rfl rfl ?_
  refine wkP.stC 223 3 c3 A145 dtext_222 rfl (by simp) (nar_c (hk c3 (by simp))) (by simp) rfl ?_
  intro h147 K147 A147
  have z147 := K147.1
  replace A147 : Ia Z h147 a139 .char [c0, c1, c2, c3, (0 : Int32), (0 : Int32)] := A147
  refine wkP.dup 224 dtext_223 rfl rfl ?_
  refine wkP.iconst 225 (4 : Int32) dtext_224 rfl rfl ?_
  refine wkP.aloadN 226 dtext_225 rfl rfl rfl ?_
  refine wkP.iconst 227 (4 : Int32) dtext_226 rfl rfl ?_
  have F_148 := (F_146.keep K147 (nnS (by omega) nn0))
  refine wkP.caload 228 4 c4 F_148 dtext_227 rfl rfl rfl ?_
  refine wkP.stC 229 4 c4 A147 dtext_228 rfl (by simp) (nar_c (hk c4 (by simp))) (by simp) rfl ?_
  intro h149 K149 A149
  have z149 := K149.1
  replace A149 : Ia Z h149 a139 .char [c0, c1, c2, c3, c4, (0 : Int32)] := A149
  refine wkP.dup 230 dtext_229 rfl rfl ?_
  refine wkP.iconst 231 (5 : Int32) dtext_230 rfl rfl ?_
  refine wkP.aloadN 232 dtext_231 rfl rfl rfl ?_
  refine wkP.iconst 233 (5 : Int32) dtext_232 rfl rfl ?_
  have F_150 := (F_148.keep K149 (nnS (by omega) nn0))
  refine wkP.caload 234 5 c5 F_150 dtext_233 rfl rfl rfl ?_
  refine wkP.stC 235 5 c5 A149 dtext_234 rfl (by simp) (nar_c (hk c5 (by simp))) (by simp) rfl ?_
  intro h151 K151 A151
  have z151 := K151.1
  replace A151 : Ia Z h151 a139 .char [c0, c1, c2, c3, c4, c5] := A151
  have hch : chs [c0, c1, c2, c3, c4, c5] := by
    intro c hc
    simp only [List.mem_cons, List.not_mem_nil, or_false] at hc
    rcases hc with rfl | rfl | rfl | rfl | rfl | rfl
    · exact hk _ (by simp)
    · exact hk _ (by simp)
    · exact hk _ (by simp)
    · exact hk _ (by simp)
    · exact hk _ (by simp)
    · exact hk _ (by simp)
  have E136_152 := (((((((E136.keep K139).keep K141).keep K143).keep K145).keep K147).keep K149).keep K151)
  have F137_153 := (((((((F137.keep K139 nn0).keep K141 (nnS (by omega) nn0)).keep K143 (nnS (by omega) nn0)).keep K145 (nnS (by omega) nn0)).keep K147 (nnS (by omega) nn0)).keep K149 (nnS (by omega) nn0)).keep K151 (nnS (by omega) nn0))
  have F138_154 := (((((((F138.keep K139 nn0).keep K141 (nnS (by omega) nn0)).keep K143 (nnS (by omega) nn0)).keep K145 (nnS (by omega) nn0)).keep K147 (nnS (by omega) nn0)).keep K149 (nnS (by omega) nn0)).keep K151 (nnS (by omega) nn0))
  refine wkP.callI 238 (M_init1 l Z a0 g _ a136 a139 [c0, c1, c2, c3, c4, c5] A151 hch (by simp) _ _ E136_152 F137_153 F138_154) [(.ref a139)] [(.ref a136)] 1 g.2.1 (w9 g.1) (w10 g.1) (w8 g.1) (w11 g.1) rfl rfl (by decide) dtext_235 (lenOf pd14 rfl) rfl rfl rfl (by simp) (Nat.le_of_eq rfl) (by decide) (by decide) (by decide) (by decide) rfl ?_
  rintro v155 h155 o155 ⟨d155, rfl, rfl, H155⟩ K155
  have z155 := K155.1
  exact wkP.retA (.object "java/lang/String") [] g.2.1 dtext_238 rfl rfl (by decide) (by decide) (by simp) ⟨a136, _, rfl, rfl, H155⟩
set_option maxRecDepth 65536 in
set_option maxHeartbeats 4000000 in
theorem M_text7 (l : Launch) (Z : State) (a0 : Array Value) (g : G Z a0) (h : Heap) (b : Addr) (c0 c1 c2 c3 c4 c5 c6 c7 c8 c9 : Int32) (F : Ia Z h b .char [c0, c1, c2, c3, c4, c5, c6, c7, c8, c9]) (hk : chs [c0, c1, c2, c3, c4, c5, c6, c7, c8, c9]) : wkM l Z btext rtext #[.ref b, .int 7] h [] (fun v h' os => ∃ s t, v = some (.ref s) ∧ os = [] ∧ St Z h' s t [c0, c1, c2, c3, c4, c5, c6]) := by
  have hlb := F.lt
  refine wkM.of #[.val (.ref b), .val (.int (7 : Int32))] (plainFor_of_name (by first | (simp [plainName, overriddenIn]; done) | decide +kernel)) (fun m => by first | rfl | (simp [entryFrame, mkF, argsToLocals, Value.category]; done)) ?_
  refine wkP.iloadN 1 dtext_0 rfl rfl ?_
  refine wkP.ifT 15 dtext_1 (show ¬ (7 : Int32) = (0 : Int32) from (by decide)) (by decide) (by decide) ?_
  refine wkP.iloadN 16 dtext_15 rfl rfl ?_
  refine wkP.iconst 17 (1 : Int32) dtext_16 rfl rfl ?_
  refine wkP.icmpT 37 dtext_17 (show ¬ (7 : Int32) = (1 : Int32) from (by decide)) (by decide) (by decide) ?_
  refine wkP.iloadN 38 dtext_37 rfl rfl ?_
  refine wkP.iconst 39 (2 : Int32) dtext_38 rfl rfl ?_
  refine wkP.icmpT 65 dtext_39 (show ¬ (7 : Int32) = (2 : Int32) from (by decide)) (by decide) (by decide) ?_
  refine wkP.iloadN 66 dtext_65 rfl rfl ?_
  refine wkP.iconst 67 (3 : Int32) dtext_66 rfl rfl ?_
  refine wkP.icmpT 99 dtext_67 (show ¬ (7 : Int32) = (3 : Int32) from (by decide)) (by decide) (by decide) ?_
  refine wkP.iloadN 100 dtext_99 rfl rfl ?_
  refine wkP.iconst 101 (4 : Int32) dtext_100 rfl rfl ?_
  refine wkP.icmpT 139 dtext_101 (show ¬ (7 : Int32) = (4 : Int32) from (by decide)) (by decide) (by decide) ?_
  refine wkP.iloadN 140 dtext_139 rfl rfl ?_
  refine wkP.iconst 141 (5 : Int32) dtext_140 rfl rfl ?_
  refine wkP.icmpT 185 dtext_141 (show ¬ (7 : Int32) = (5 : Int32) from (by decide)) (by decide) (by decide) ?_
  refine wkP.iloadN 186 dtext_185 rfl rfl ?_
  refine wkP.bipush 188 (6 : Int32) dtext_186 rfl rfl ?_
  refine wkP.icmpT 239 dtext_188 (show ¬ (7 : Int32) = (6 : Int32) from (by decide)) (by decide) (by decide) ?_
  refine wkP.iloadN 240 dtext_239 rfl rfl ?_
  refine wkP.bipush 242 (7 : Int32) dtext_240 rfl rfl ?_
  refine wkP.icmpF 245 dtext_242 (show ¬ (¬ (7 : Int32) = (7 : Int32)) from (by decide)) rfl ?_
  refine wkP.newO 248 (w6 g.1) (w7 g.1) (w8 g.1) dtext_245 (by decide) (by decide) rfl ?_
  intro h156 a156 g156 l156 K156 E156 D156 U156
  have z156 := K156.1
  have F157 := D156 (Or.inr (w22 g.1)) (ty := .byte) (by decide)
  have F158 := D156 (Or.inr (w21 g.1)) (ty := (.array .byte)) (by decide)
  refine wkP.dup 249 dtext_248 rfl rfl ?_
  refine wkP.bipush 251 (7 : Int32) dtext_249 rfl rfl ?_
  refine wkP.newP 253 .char 7 7 (w1 g.1) rfl rfl rfl dtext_251 rfl (by decide) (by decide) (by decide) (by decide) rfl ?_
  intro h159 a159 g159 l159 K159 A159
  have z159 := K159.1
  replace A159 : Ia Z h159 a159 .char [(0 : Int32), (0 : Int32), (0 : Int32), (0 : Int32), (0 : Int32), (0 : Int32), (0 : Int32)] := A159
  refine wkP.dup 254 dtext_253 rfl rfl ?_
  refine wkP.iconst 255 (0 : Int32) dtext_254 rfl rfl ?_
  refine wkP.aloadN 256 dtext_255 rfl rfl rfl ?_
  refine wkP.iconst 257 (0 : Int32) dtext_256 rfl rfl ?_
  have F_160 := ((F.keep K156 nn0).keep K159 nn0)
  refine wkP.caload 258 0 c0 F_160 dtext_257 rfl rfl rfl ?_
  refine wkP.stC 259 0 c0 A159 dtext_258 rfl (by simp) (nar_c (hk c0 (by simp))) (by simp) rfl ?_
  intro h161 K161 A161
  have z161 := K161.1
  replace A161 : Ia Z h161 a159 .char [c0, (0 : Int32), (0 : Int32), (0 : Int32), (0 : Int32), (0 : Int32), (0 : Int32)] := A161
  refine wkP.dup 260 dtext_259 rfl rfl ?_
  refine wkP.iconst 261 (1 : Int32) dtext_260 rfl rfl ?_
  refine wkP.aloadN 262 dtext_261 rfl rfl rfl ?_
  refine wkP.iconst 263 (1 : Int32) dtext_262 rfl rfl ?_
  have F_162 := (F_160.keep K161 (nnS (by omega) nn0))
  refine wkP.caload 264 1 c1 F_162 dtext_263 rfl rfl rfl ?_
  refine wkP.stC 265 1 c1 A161 dtext_264 rfl (by simp) (nar_c (hk c1 (by simp))) (by simp) rfl ?_
  intro h163 K163 A163
  have z163 := K163.1
  replace A163 : Ia Z h163 a159 .char [c0, c1, (0 : Int32), (0 : Int32), (0 : Int32), (0 : Int32), (0 : Int32)] := A163
  refine wkP.dup 266 dtext_265 rfl rfl ?_
  refine wkP.iconst 267 (2 : Int32) dtext_266 rfl rfl ?_
  refine wkP.aloadN 268 dtext_267 rfl rfl rfl ?_
  refine wkP.iconst 269 (2 : Int32) dtext_268 rfl rfl ?_
  have F_164 := (F_162.keep K163 (nnS (by omega) nn0))
  refine wkP.caload 270 2 c2 F_164 dtext_269 rfl rfl rfl ?_
  refine wkP.stC 271 2 c2 A163 dtext_270 rfl (by simp) (nar_c (hk c2 (by simp))) (by simp) rfl ?_
  intro h165 K165 A165
  have z165 := K165.1
  replace A165 : Ia Z h165 a159 .char [c0, c1, c2, (0 : Int32), (0 : Int32), (0 : Int32), (0 : Int32)] := A165
  refine wkP.dup 272 dtext_271 rfl rfl ?_
  refine wkP.iconst 273 (3 : Int32) dtext_272 rfl rfl ?_
  refine wkP.aloadN 274 dtext_273 rfl rfl rfl ?_
  refine wkP.iconst 275 (3 : Int32) dtext_274 rfl rfl ?_
  have F_166 := (F_164.keep K165 (nnS (by omega) nn0))
  refine wkP.caload 276 3 c3 F_166 dtext_275 rfl rfl rfl ?_
  refine wkP.stC 277 3 c3 A165 dtext_276 rfl (by simp) (nar_c (hk c3 (by simp))) (by simp) rfl ?_
  intro h167 K167 A167
  have z167 := K167.1
  replace A167 : Ia Z h167 a159 .char [c0, c1, c2, c3, (0 : Int32), (0 : Int32), (0 : Int32)] := A167
  refine wkP.dup 278 dtext_277 rfl rfl ?_
  refine wkP.iconst 279 (4 : Int32) dtext_278 rfl rfl ?_
  refine wkP.aloadN 280 dtext_279 rfl rfl rfl ?_
  refine wkP.iconst 281 (4 : Int32) dtext_280 rfl rfl ?_
  have F_168 := (F_166.keep K167 (nnS (by omega) nn0))
  refine wkP.caload 282 4 c4 F_168 dtext_281 rfl rfl rfl ?_
  refine wkP.stC 283 4 c4 A167 dtext_282 rfl (by simp) (nar_c (hk c4 (by simp))) (by simp) rfl ?_
  intro h169 K169 A169
  have z169 := K169.1
  replace A169 : Ia Z h169 a159 .char [c0, c1, c2, c3, c4, (0 : Int32), (0 : Int32)] := A169
  refine wkP.dup 284 dtext_283 rfl rfl ?_
  refine wkP.iconst 285 (5 : Int32) dtext_284 rfl rfl ?_
  refine wkP.aloadN 286 dtext_285 rfl rfl rfl ?_
  refine wkP.iconst 287 (5 : Int32) dtext_286 rfl rfl ?_
  have F_170 := (F_168.keep K169 (nnS (by omega) nn0))
  refine wkP.caload 288 5 c5 F_170 dtext_287 rfl rfl rfl ?_
  refine wkP.stC 289 5 c5 A169 dtext_288 rfl (by simp) (nar_c (hk c5 (by simp))) (by simp) rfl ?_
  intro h171 K171 A171
  have z171 := K171.1
  replace A171 : Ia Z h171 a159 .char [c0, c1, c2, c3, c4, c5, (0 : Int32)] := A171
  refine wkP.dup 290 dtext_289 rfl rfl ?_
  refine wkP.bipush 292 (6 : Int32) dtext_290 rfl rfl ?_
  refine wkP.aloadN 293 dtext_292 rfl rfl rfl ?_
  refine wkP.bipush 295 (6 : Int32) dtext_293 rfl rfl ?_
  have F_172 := (F_170.keep K171 (nnS (by omega) nn0))
  refine wkP.caload 296 6 c6 F_172 dtext_295 rfl rfl rfl ?_
  refine wkP.stC 297 6 c6 A171 dtext_296 rfl (by simp) (nar_c (hk c6 (by simp))) (by simp) rfl ?_
  intro h173 K173 A173
  have z173 := K173.1
  replace A173 : Ia Z h173 a159 .char [c0, c1, c2, c3, c4, c5, c6] := A173
  have hch : chs [c0, c1, c2, c3, c4, c5, c6] := by
    intro c hc
    simp only [List.mem_cons, List.not_mem_nil, or_false] at hc
    rcases hc with rfl | rfl | rfl | rfl | rfl | rfl | rfl
    · exact hk _ (by simp)
    · exact hk _ (by simp)
    · exact hk _ (by simp)
    · exact hk _ (by simp)
    · exact hk _ (by simp)
    · exact hk _ (by simp)
    · exact hk _ (by simp)
  have E156_174 := ((((((((E156.keep K159).keep K161).keep K163).keep K165).keep K167).keep K169).keep K171).keep K173)
  have F157_175 := ((((((((F157.keep K159 nn0).keep K161 (nnS (by omega) nn0)).keep K163 (nnS (by omega) nn0)).keep K165 (nnS (by omega) nn0)).keep K167 (nnS (by omega) nn0)).keep K169 (nnS (by omega) nn0)).keep K171 (nnS (by omega) nn0)).keep K173 (nnS (by omega) nn0))
  have F158_176 := ((((((((F158.keep K159 nn0).keep K161 (nnS (by omega) nn0)).keep K163 (nnS (by omega) nn0)).keep K165 (nnS (by omega) nn0)).keep K167 (nnS (by omega) nn0)).keep K169 (nnS (by omega) nn0)).keep K171 (nnS (by omega) nn0)).keep K173 (nnS (by omega) nn0))
  refine wkP.callI 300 (M_init1 l Z a0 g _ a156 a159 [c0, c1, c2, c3, c4, c5, c6] A173 hch (by simp) _ _ E156_174 F157_175 F158_176) [(.ref a159)] [(.ref a156)] 1 g.2.1 (w9 g.1) (w10 g.1) (w8 g.1) (w11 g.1) rfl rfl (by decide) dtext_297 (lenOf pd14 rfl) rfl rfl rfl (by simp) (Nat.le_of_eq rfl) (by decide) (by decide) (by decide) (by decide) rfl ?_
  rintro v177 h177 o177 ⟨d177, rfl, rfl, H177⟩ K177
  have z177 := K177.1
  exact wkP.retA (.object "java/lang/String") [] g.2.1 dtext_300 rfl rfl (by decide) (by decide) (by simp) ⟨a156, _, rfl, rfl, H177⟩
set_option maxRecDepth 65536 in
set_option maxHeartbeats 4000000 in
theorem M_text8 (l : Launch) (Z : State) (a0 : Array Value) (g : G Z a0) (h : Heap) (b : Addr) (c0 c1 c2 c3 c4 c5 c6 c7 c8 c9 : Int32) (F : Ia Z h b .char [c0, c1, c2, c3, c4, c5, c6, c7, c8, c9]) (hk : chs [c0, c1, c2, c3, c4, c5, c6, c7, c8, c9]) : wkM l Z btext rtext #[.ref b, .int 8] h [] (fun v h' os => ∃ s t, v = some (.ref s) ∧ os = [] ∧ St Z h' s t [c0, c1, c2, c3, c4, c5, c6, c7]) := by
  have hlb := F.lt
  refine wkM.of #[.val (.ref b), .val (.int (8 : Int32))] (plainFor_of_name (by first | (simp [plainName, overriddenIn]; done) | decide +kernel)) (fun m => by first | rfl | (simp [entryFrame, mkF, argsToLocals, Value.category]; done)) ?_
  refine wkP.iloadN 1 dtext_0 rfl rfl ?_
  refine wkP.ifT 15 dtext_1 (show ¬ (8 : Int32) = (0 : Int32) from (by decide)) (by decide) (by decide) ?_
  refine wkP.iloadN 16 dtext_15 rfl rfl ?_
  refine wkP.iconst 17 (1 : Int32) dtext_16 rfl rfl ?_
  refine wkP.icmpT 37 dtext_17 (show ¬ (8 : Int32) = (1 : Int32) from (by decide)) (by decide) (by decide) ?_
  refine wkP.iloadN 38 dtext_37 rfl rfl ?_
  refine wkP.iconst 39 (2 : Int32) dtext_38 rfl rfl ?_
  refine wkP.icmpT 65 dtext_39 (show ¬ (8 : Int32) = (2 : Int32) from (by decide)) (by decide) (by decide) ?_
  refine wkP.iloadN 66 dtext_65 rfl rfl ?_
  refine wkP.iconst 67 (3 : Int32) dtext_66 rfl rfl ?_
  refine wkP.icmpT 99 dtext_67 (show ¬ (8 : Int32) = (3 : Int32) from (by decide)) (by decide) (by decide) ?_
  refine wkP.iloadN 100 dtext_99 rfl rfl ?_
  refine wkP.iconst 101 (4 : Int32) dtext_100 rfl rfl ?_
  refine wkP.icmpT 139 dtext_101 (show ¬ (8 : Int32) = (4 : Int32) from (by decide)) (by decide) (by decide) ?_
  refine wkP.iloadN 140 dtext_139 rfl rfl ?_
  refine wkP.iconst 141 (5 : Int32) dtext_140 rfl rfl ?_
  refine wkP.icmpT 185 dtext_141 (show ¬ (8 : Int32) = (5 : Int32) from (by decide)) (by decide) (by decide) ?_
  refine wkP.iloadN 186 dtext_185 rfl rfl ?_
  refine wkP.bipush 188 (6 : Int32) dtext_186 rfl rfl ?_
  refine wkP.icmpT 239 dtext_188 (show ¬ (8 : Int32) = (6 : Int32) from (by decide)) (by decide) (by decide) ?_
  refine wkP.iloadN 240 dtext_239 rfl rfl ?_
  refine wkP.bipush 242 (7 : Int32) dtext_240 rfl rfl ?_
  refine wkP.icmpT 301 dtext_242 (show ¬ (8 : Int32) = (7 : Int32) from (by decide)) (by decide) (by decide) ?_
  refine wkP.iloadN 302 dtext_301 rfl rfl ?_
  refine wkP.bipush 304 (8 : Int32) dtext_302 rfl rfl ?_
  refine wkP.icmpF 307 dtext_304 (show ¬ (¬ (8 : Int32) = (8 : Int32)) from (by decide)) rfl ?_
  refine wkP.newO 310 (w6 g.1) (w7 g.1) (w8 g.1) dtext_307 (by decide) (by decide) rfl ?_
  intro h178 a178 g178 l178 K178 E178 D178 U178
  have z178 := K178.1
  have F179 := D178 (Or.inr (w22 g.1)) (ty := .byte) (by decide)
  have F180 := D178 (Or.inr (w21 g.1)) (ty := (.array .byte)) (by decide)
  refine wkP.dup 311 dtext_310 rfl rfl ?_
  refine wkP.bipush 313 (8 : Int32) dtext_311 rfl rfl ?_
  refine wkP.newP 315 .char 8 8 (w1 g.1) rfl rfl rfl dtext_313 rfl (by decide) (by decide) (by decide) (by decide) rfl ?_
  intro h181 a181 g181 l181 K181 A181
  have z181 := K181.1
  replace A181 : Ia Z h181 a181 .char [(0 : Int32), (0 : Int32), (0 : Int32), (0 : Int32), (0 : Int32), (0 : Int32), (0 : Int32), (0 : Int32)] := A181
  refine wkP.dup 316 dtext_315 rfl rfl ?_
  refine wkP.iconst 317 (0 : Int32) dtext_316 rfl rfl ?_
  refine wkP.aloadN 318 dtext_317 rfl rfl rfl ?_
  refine wkP.iconst 319 (0 : Int32) dtext_318 rfl rfl ?_
  have F_182 := ((F.keep K178 nn0).keep K181 nn0)
  refine wkP.caload 320 0 c0 F_182 dtext_319 rfl rfl rfl ?_
  refine wkP.stC 321 0 c0 A181 dtext_320 rfl (by simp) (nar_c (hk c0 (by simp))) (by simp) rfl ?_
  intro h183 K183 A183
  have z183 := K183.1
  replace A183 : Ia Z h183 a181 .char [c0, (0 : Int32), (0 : Int32), (0 : Int32), (0 : Int32), (0 : Int32), (0 : Int32), (0 : Int32)] := A183
  refine wkP.dup 322 dtext_321 rfl rfl ?_
  refine wkP.iconst 323 (1 : Int32) dtext_322 rfl rfl ?_
  refine wkP.aloadN 324 dtext_323 rfl rfl rfl ?_
  refine wkP.iconst 325 (1 : Int32) dtext_324 rfl rfl ?_
  have F_184 := (F_182.keep K183 (nnS (by omega) nn0))
  refine wkP.caload 326 1 c1 F_184 dtext_325 rfl rfl rfl ?_
  refine wkP.stC 327 1 c1 A183 dtext_326 rfl (by simp) (nar_c (hk c1 (by simp))) (by simp) rfl ?_
  intro h185 K185 A185
  have z185 := K185.1
  replace A185 : Ia Z h185 a181 .char [c0, c1, (0 : Int32), (0 : Int32), (0 : Int32), (0 : Int32), (0 : Int32), (0 : Int32)] := A185
  refine wkP.dup 328 dtext_327 rfl rfl ?_
  refine wkP.iconst 329 (2 : Int32) dtext_328 rfl rfl ?_
  refine wkP.aloadN 330 dtext_329 rfl rfl rfl ?_
  refine wkP.iconst 331 (2 : Int32) dtext_330 rfl rfl ?_
  have F_186 := (F_184.keep K185 (nnS (by omega) nn0))
  refine wkP.caload 332 2 c2 F_186 dtext_331 rfl rfl rfl ?_
  refine wkP.stC 333 2 c2 A185 dtext_332 rfl (by simp) (nar_c (hk c2 (by simp))) (by simp) rfl ?_
  intro h187 K187 A187
  have z187 := K187.1
  replace A187 : Ia Z h187 a181 .char [c0, c1, c2, (0 : Int32), (0 : Int32), (0 : Int32), (0 : Int32), (0 : Int32)] := A187
  refine wkP.dup 334 dtext_333 rfl rfl ?_
  refine wkP.iconst 335 (3 : Int32) dtext_334 rfl rfl ?_
  refine wkP.aloadN 336 dtext_335 rfl rfl rfl ?_
  refine wkP.iconst 337 (3 : Int32) dtext_336 rfl rfl ?_
  have F_188 := (F_186.keep K187 (nnS (by omega) nn0))
  refine wkP.caload 338 3 c3 F_188 dtext_337 rfl rfl rfl ?_
  refine wkP.stC 339 3 c3 A187 dtext_338 rfl (by simp) (nar_c (hk c3 (by simp))) (by simp) rfl ?_
  intro h189 K189 A189
  have z189 := K189.1
  replace A189 : Ia Z h189 a181 .char [c0, c1, c2, c3, (0 : Int32), (0 : Int32), (0 : Int32), (0 : Int32)] := A189
  refine wkP.dup 340 dtext_339 rfl rfl ?_
  refine wkP.iconst 341 (4 : Int32) dtext_340 rfl rfl ?_
  refine wkP.aloadN 342 dtext_341 rfl rfl rfl ?_
  refine wkP.iconst 343 (4 : Int32) dtext_342 rfl rfl ?_
  have F_190 := (F_188.keep K189 (nnS (by omega) nn0))
  refine wkP.caload 344 4 c4 F_190 dtext_343 rfl rfl rfl ?_
  refine wkP.stC 345 4 c4 A189 dtext_344 rfl (by simp) (nar_c (hk c4 (by simp))) (by simp) rfl ?_
  intro h191 K191 A191
  have z191 := K191.1
  replace A191 : Ia Z h191 a181 .char [c0, c1, c2, c3, c4, (0 : Int32), (0 : Int32), (0 : Int32)] := A191
  refine wkP.dup 346 dtext_345 rfl rfl ?_
  refine wkP.iconst 347 (5 : Int32) dtext_346 rfl rfl ?_
  refine wkP.aloadN 348 dtext_347 rfl rfl rfl ?_
  refine wkP.iconst 349 (5 : Int32) dtext_348 rfl rfl ?_
  have F_192 := (F_190.keep K191 (nnS (by omega) nn0))
  refine wkP.caload 350 5 c5 F_192 dtext_349 rfl rfl rfl ?_
  refine wkP.stC 351 5 c5 A191 dtext_350 rfl (by simp) (nar_c (hk c5 (by simp))) (by simp) rfl ?_
  intro h193 K193 A193
  have z193 := K193.1
  replace A193 : Ia Z h193 a181 .char [c0, c1, c2, c3, c4, c5, (0 : Int32), (0 : Int32)] := A193
  refine wkP.dup 352 dtext_351 rfl rfl ?_
  refine wkP.bipush 354 (6 : Int32) dtext_352 rfl rfl ?_
  refine wkP.aloadN 355 dtext_354 rfl rfl rfl ?_
  refine wkP.bipush 357 (6 : Int32) dtext_355 rfl rfl ?_
  have F_194 := (F_192.keep K193 (nnS (by omega) nn0))
  refine wkP.caload 358 6 c6 F_194 dtext_357 rfl rfl rfl ?_
  refine wkP.stC 359 6 c6 A193 dtext_358 rfl (by simp) (nar_c (hk c6 (by simp))) (by simp) rfl ?_
  intro h195 K195 A195
  have z195 := K195.1
  replace A195 : Ia Z h195 a181 .char [c0, c1, c2, c3, c4, c5, c6, (0 : Int32)] := A195
  refine wkP.dup 360 dtext_359 rfl rfl ?_
  refine wkP.bipush 362 (7 : Int32) dtext_360 rfl rfl ?_
  refine wkP.aloadN 363 dtext_362 rfl rfl rfl ?_
  refine wkP.bipush 365 (7 : Int32) dtext_363 rfl rfl ?_
  have F_196 := (F_194.keep K195 (nnS (by omega) nn0))
  refine wkP.caload 366 7 c7 F_196 dtext_365 rfl rfl rfl ?_
  refine wkP.stC 367 7 c7 A195 dtext_366 rfl (by simp) (nar_c (hk c7 (by simp))) (by simp) rfl ?_
  intro h197 K197 A197
  have z197 := K197.1
  replace A197 : Ia Z h197 a181 .char [c0, c1, c2, c3, c4, c5, c6, c7] := A197
  have hch : chs [c0, c1, c2, c3, c4, c5, c6, c7] := by
    intro c hc
    simp only [List.mem_cons, List.not_mem_nil, or_false] at hc
    rcases hc with rfl | rfl | rfl | rfl | rfl | rfl | rfl | rfl
    · exact hk _ (by simp)
    · exact hk _ (by simp)
    · exact hk _ (by simp)
    · exact hk _ (by simp)
    · exact hk _ (by simp)
    · exact hk _ (by simp)
    · exact hk _ (by simp)
    · exact hk _ (by simp)
  have E178_198 := (((((((((E178.keep K181).keep K183).keep K185).keep K187).keep K189).keep K191).keep K193).keep K195).keep K197)
  have F179_199 := (((((((((F179.keep K181 nn0).keep K183 (nnS (by omega) nn0)).keep K185 (nnS (by omega) nn0)).keep K187 (nnS (by omega) nn0)).keep K189 (nnS (by omega) nn0)).keep K191 (nnS (by omega) nn0)).keep K193 (nnS (by omega) nn0)).keep K195 (nnS (by omega) nn0)).keep K197 (nnS (by omega) nn0))
  have F180_200 := (((((((((F180.keep K181 nn0).keep K183 (nnS (by omega) nn0)).keep K185 (nnS (by omega) nn0)).keep K187 (nnS (by omega) nn0)).keep K189 (nnS (by omega) nn0)).keep K191 (nnS (by omega) nn0)).keep K193 (nnS (by omega) nn0)).keep K195 (nnS (by omega) nn0)).keep K197 (nnS (by omega) nn0))
  refine wkP.callI 370 (M_init1 l Z a0 g _ a178 a181 [c0, c1, c2, c3, c4, c5, c6, c7] A197 hch (by simp) _ _ E178_198 F179_199 F180_200) [(.ref a181)] [(.ref a178)] 1 g.2.1 (w9 g.1) (w10 g.1) (w8 g.1) (w11 g.1) rfl rfl (by decide) dtext_367 (lenOf pd14 rfl) rfl rfl rfl (by simp) (Nat.le_of_eq rfl) (by decide) (by decide) (by decide) (by decide) rfl ?_
  rintro v201 h201 o201 ⟨d201, rfl, rfl, H201⟩ K201
  have z201 := K201.1
  exact wkP.retA (.object "java/lang/String") [] g.2.1 dtext_370 rfl rfl (by decide) (by decide) (by simp) ⟨a178, _, rfl, rfl, H201⟩
set_option maxRecDepth 65536 in
set_option maxHeartbeats 4000000 in
theorem M_text9 (l : Launch) (Z : State) (a0 : Array Value) (g : G Z a0) (h : Heap) (b : Addr) (c0 c1 c2 c3 c4 c5 c6 c7 c8 c9 : Int32) (F : Ia Z h b .char [c0, c1, c2, c3, c4, c5, c6, c7, c8, c9]) (hk : chs [c0, c1, c2, c3, c4, c5, c6, c7, c8, c9]) : wkM l Z btext rtext #[.ref b, .int 9] h [] (fun v h' os => ∃ s t, v = some (.ref s) ∧ os = [] ∧ St Z h' s t [c0, c1, c2, c3, c4, c5, c6, c7, c8]) := by
  have hlb := F.lt
  refine wkM.of #[.val (.ref b), .val (.int (9 : Int32))] (plainFor_of_name (by first | (simp [plainName, overriddenIn]; done) | decide +kernel)) (fun m => by first | rfl | (simp [entryFrame, mkF, argsToLocals, Value.category]; done)) ?_
  refine wkP.iloadN 1 dtext_0 rfl rfl ?_
  refine wkP.ifT 15 dtext_1 (show ¬ (9 : Int32) = (0 : Int32) from (by decide)) (by decide) (by decide) ?_
  refine wkP.iloadN 16 dtext_15 rfl rfl ?_
  refine wkP.iconst 17 (1 : Int32) dtext_16 rfl rfl ?_
  refine wkP.icmpT 37 dtext_17 (show ¬ (9 : Int32) = (1 : Int32) from (by decide)) (by decide) (by decide) ?_
  refine wkP.iloadN 38 dtext_37 rfl rfl ?_
  refine wkP.iconst 39 (2 : Int32) dtext_38 rfl rfl ?_
  refine wkP.icmpT 65 dtext_39 (show ¬ (9 : Int32) = (2 : Int32) from (by decide)) (by decide) (by decide) ?_
  refine wkP.iloadN 66 dtext_65 rfl rfl ?_
  refine wkP.iconst 67 (3 : Int32) dtext_66 rfl rfl ?_
  refine wkP.icmpT 99 dtext_67 (show ¬ (9 : Int32) = (3 : Int32) from (by decide)) (by decide) (by decide) ?_
  refine wkP.iloadN 100 dtext_99 rfl rfl ?_
  refine wkP.iconst 101 (4 : Int32) dtext_100 rfl rfl ?_
  refine wkP.icmpT 139 dtext_101 (show ¬ (9 : Int32) = (4 : Int32) from (by decide)) (by decide) (by decide) ?_
  refine wkP.iloadN 140 dtext_139 rfl rfl ?_
  refine wkP.iconst 141 (5 : Int32) dtext_140 rfl rfl ?_
  refine wkP.icmpT 185 dtext_141 (show ¬ (9 : Int32) = (5 : Int32) from (by decide)) (by decide) (by decide) ?_
  refine wkP.iloadN 186 dtext_185 rfl rfl ?_
  refine wkP.bipush 188 (6 : Int32) dtext_186 rfl rfl ?_
  refine wkP.icmpT 239 dtext_188 (show ¬ (9 : Int32) = (6 : Int32) from (by decide)) (by decide) (by decide) ?_
  refine wkP.iloadN 240 dtext_239 rfl rfl ?_
  refine wkP.bipush 242 (7 : Int32) dtext_240 rfl rfl ?_
  refine wkP.icmpT 301 dtext_242 (show ¬ (9 : Int32) = (7 : Int32) from (by decide)) (by decide) (by decide) ?_
  refine wkP.iloadN 302 dtext_301 rfl rfl ?_
  refine wkP.bipush 304 (8 : Int32) dtext_302 rfl rfl ?_
  refine wkP.icmpT 371 dtext_304 (show ¬ (9 : Int32) = (8 : Int32) from (by decide)) (by decide) (by decide) ?_
  refine wkP.iloadN 372 dtext_371 rfl rfl ?_
  refine wkP.bipush 374 (9 : Int32) dtext_372 rfl rfl ?_
  refine wkP.icmpF 377 dtext_374 (show ¬ (¬ (9 : Int32) = (9 : Int32)) from (by decide)) rfl ?_
  refine wkP.newO 380 (w6 g.1) (w7 g.1) (w8 g.1) dtext_377 (by decide) (by decide) rfl ?_
  intro h202 a202 g202 l202 K202 E202 D202 U202
  have z202 := K202.1
  have F203 := D202 (Or.inr (w22 g.1)) (ty := .byte) (by decide)
  have F204 := D202 (Or.inr (w21 g.1)) (ty := (.array .byte)) (by decide)
  refine wkP.dup 381 dtext_380 rfl rfl ?_
  refine wkP.bipush 383 (9 : Int32) dtext_381 rfl rfl ?_
  refine wkP.newP 385 .char 9 9 (w1 g.1) rfl rfl rfl dtext_383 rfl (by decide) (by decide) (by decide) (by decide) rfl ?_
  intro h205 a205 g205 l205 K205 A205
  have z205 := K205.1
  replace A205 : Ia Z h205 a205 .char [(0 : Int32), (0 : Int32), (0 : Int32), (0 : Int32), (0 : Int32), (0 : Int32), (0 : Int32), (0 : Int32), (0 : Int32)] := A205
  refine wkP.dup 386 dtext_385 rfl rfl ?_
  refine wkP.iconst 387 (0 : Int32) dtext_386 rfl rfl ?_
  refine wkP.aloadN 388 dtext_387 rfl rfl rfl ?_
  refine wkP.iconst 389 (0 : Int32) dtext_388 rfl rfl ?_
  have F_206 := ((F.keep K202 nn0).keep K205 nn0)
  refine wkP.caload 390 0 c0 F_206 dtext_389 rfl rfl rfl ?_
  refine wkP.stC 391 0 c0 A205 dtext_390 rfl (by simp) (nar_c (hk c0 (by simp))) (by simp) rfl ?_
  intro h207 K207 A207
  have z207 := K207.1
  replace A207 : Ia Z h207 a205 .char [c0, (0 : Int32), (0 : Int32), (0 : Int32), (0 : Int32), (0 : Int32), (0 : Int32), (0 : Int32), (0 : Int32)] := A207
  refine wkP.dup 392 dtext_391 rfl rfl ?_
  refine wkP.iconst 393 (1 : Int32) dtext_392 rfl rfl ?_
  refine wkP.aloadN 394 dtext_393 rfl rfl rfl ?_
  refine wkP.iconst 395 (1 : Int32) dtext_394 rfl rfl ?_
  have F_208 := (F_206.keep K207 (nnS (by omega) nn0))
  refine wkP.caload 396 1 c1 F_208 dtext_395 rfl rfl rfl ?_
  refine wkP.stC 397 1 c1 A207 dtext_396 rfl (by simp) (nar_c (hk c1 (by simp))) (by simp) rfl ?_
  intro h209 K209 A209
  have z209 := K209.1
  replace A209 : Ia Z h209 a205 .char [c0, c1, (0 : Int32), (0 : Int32), (0 : Int32), (0 : Int32), (0 : Int32), (0 : Int32), (0 : Int32)] := A209
  refine wkP.dup 398 dtext_397 rfl rfl ?_
  refine wkP.iconst 399 (2 : Int32) dtext_398 rfl rfl ?_
  refine wkP.aloadN 400 dtext_399 rfl rfl rfl ?_
  refine wkP.iconst 401 (2 : Int32) dtext_400 rfl rfl ?_
  have F_210 := (F_208.keep K209 (nnS (by omega) nn0))
  refine wkP.caload 402 2 c2 F_210 dtext_401 rfl rfl rfl ?_
  refine wkP.stC 403 2 c2 A209 dtext_402 rfl (by simp) (nar_c (hk c2 (by simp))) (by simp) rfl ?_
  intro h211 K211 A211
  have z211 := K211.1
  replace A211 : Ia Z h211 a205 .char [c0, c1, c2, (0 : Int32), (0 : Int32), (0 : Int32), (0 : Int32), (0 : Int32), (0 : Int32)] := A211
  refine wkP.dup 404 dtext_403 rfl rfl ?_
  refine wkP.iconst 405 (3 : Int32) dtext_404 rfl rfl ?_
  refine wkP.aloadN 406 dtext_405 rfl rfl rfl ?_
  refine wkP.iconst 407 (3 : Int32) dtext_406 rfl rfl ?_
  have F_212 := (F_210.keep K211 (nnS (by omega) nn0))
  refine wkP.caload 408 3 c3 F_212 dtext_407 rfl rfl rfl ?_
  refine wkP.stC 409 3 c3 A211 dtext_408 rfl (by simp) (nar_c (hk c3 (by simp))) (by simp) rfl ?_
  intro h213 K213 A213
  have z213 := K213.1
  replace A213 : Ia Z h213 a205 .char [c0, c1, c2, c3, (0 : Int32), (0 : Int32), (0 : Int32), (0 : Int32), (0 : Int32)] := A213
  refine wkP.dup 410 dtext_409 rfl rfl ?_
  refine wkP.iconst 411 (4 : Int32) dtext_410 rfl rfl ?_
  refine wkP.aloadN 412 dtext_411 rfl rfl rfl ?_
  refine wkP.iconst 413 (4 : Int32) dtext_412 rfl rfl ?_
  have F_214 := (F_212.keep K213 (nnS (by omega) nn0))
  refine wkP.caload 414 4 c4 F_214 dtext_413 rfl rfl rfl ?_
  refine wkP.stC 415 4 c4 A213 dtext_414 rfl (by simp) (nar_c (hk c4 (by simp))) (by simp) rfl ?_
  intro h215 K215 A215
  have z215 := K215.1
  replace A215 : Ia Z h215 a205 .char [c0, c1, c2, c3, c4, (0 : Int32), (0 : Int32), (0 : Int32), (0 : Int32)] := A215
  refine wkP.dup 416 dtext_415 rfl rfl ?_
  refine wkP.iconst 417 (5 : Int32) dtext_416 rfl rfl ?_
  refine wkP.aloadN 418 dtext_417 rfl rfl rfl ?_
  refine wkP.iconst 419 (5 : Int32) dtext_418 rfl rfl ?_
  have F_216 := (F_214.keep K215 (nnS (by omega) nn0))
  refine wkP.caload 420 5 c5 F_216 dtext_419 rfl rfl rfl ?_
  refine wkP.stC 421 5 c5 A215 dtext_420 rfl (by simp) (nar_c (hk c5 (by simp))) (by simp) rfl ?_
  intro h217 K217 A217
  have z217 := K217.1
  replace A217 : Ia Z h217 a205 .char [c0, c1, c2, c3, c4, c5, (0 : Int32), (0 : Int32), (0 : Int32)] := A217
  refine wkP.dup 422 dtext_421 rfl rfl ?_
  refine wkP.bipush 424 (6 : Int32) dtext_422 rfl rfl ?_
  refine wkP.aloadN 425 dtext_424 rfl rfl rfl ?_
  refine wkP.bipush 427 (6 : Int32) dtext_425 rfl rfl ?_
  have F_218 := (F_216.keep K217 (nnS (by omega) nn0))
  refine wkP.caload 428 6 c6 F_218 dtext_427 rfl rfl rfl ?_
  refine wkP.stC 429 6 c6 A217 dtext_428 rfl (by simp) (nar_c (hk c6 (by simp))) (by simp) rfl ?_
  intro h219 K219 A219
  have z219 := K219.1
  replace A219 : Ia Z h219 a205 .char [c0, c1, c2, c3, c4, c5, c6, (0 : Int32), (0 : Int32)] := A219
  refine wkP.dup 430 dtext_429 rfl rfl ?_
  refine wkP.bipush 432 (7 : Int32) dtext_430 rfl rfl ?_
  refine wkP.aloadN 433 dtext_432 rfl rfl rfl ?_
  refine wkP.bipush 435 (7 : Int32) dtext_433 rfl rfl ?_
  have F_220 := (F_218.keep K219 (nnS (by omega) nn0))
  refine wkP.caload 436 7 c7 F_220 dtext_435 rfl rfl rfl ?_
  refine wkP.stC 437 7 c7 A219 dtext_436 rfl (by simp) (nar_c (hk c7 (by simp))) (by simp) rfl ?_
  intro h221 K221 A221
  have z221 := K221.1
  replace A221 : Ia Z h221 a205 .char [c0, c1, c2, c3, c4, c5, c6, c7, (0 : Int32)] := A221
  refine wkP.dup 438 dtext_437 rfl rfl ?_
  refine wkP.bipush 440 (8 : Int32) dtext_438 rfl rfl ?_
  refine wkP.aloadN 441 dtext_440 rfl rfl rfl ?_
  refine wkP.bipush 443 (8 : Int32) dtext_441 rfl rfl ?_
  have F_222 := (F_220.keep K221 (nnS (by omega) nn0))
  refine wkP.caload 444 8 c8 F_222 dtext_443 rfl rfl rfl ?_
  refine wkP.stC 445 8 c8 A221 dtext_444 rfl (by simp) (nar_c (hk c8 (by simp))) (by simp) rfl ?_
  intro h223 K223 A223
  have z223 := K223.1
  replace A223 : Ia Z h223 a205 .char [c0, c1, c2, c3, c4, c5, c6, c7, c8] := A223
  have hch : chs [c0, c1, c2, c3, c4, c5, c6, c7, c8] := by
    intro c hc
    simp only [List.mem_cons, List.not_mem_nil, or_false] at hc
    rcases hc with rfl | rfl | rfl | rfl | rfl | rfl | rfl | rfl | rfl
    · exact hk _ (by simp)
    · exact hk _ (by simp)
    · exact hk _ (by simp)
    · exact hk _ (by simp)
    · exact hk _ (by simp)
    · exact hk _ (by simp)
    · exact hk _ (by simp)
    · exact hk _ (by simp)
    · exact hk _ (by simp)
  have E202_224 := ((((((((((E202.keep K205).keep K207).keep K209).keep K211).keep K213).keep K215).keep K217).keep K219).keep K221).keep K223)
  have F203_225 := ((((((((((F203.keep K205 nn0).keep K207 (nnS (by omega) nn0)).keep K209 (nnS (by omega) nn0)).keep K211 (nnS (by omega) nn0)).keep K213 (nnS (by omega) nn0)).keep K215 (nnS (by omega) nn0)).keep K217 (nnS (by omega) nn0)).keep K219 (nnS (by omega) nn0)).keep K221 (nnS (by omega) nn0)).keep K223 (nnS (by omega) nn0))
  have F204_226 := ((((((((((F204.keep K205 nn0).keep K207 (nnS (by omega) nn0)).keep K209 (nnS (by omega) nn0)).keep K211 (nnS (by omega) nn0)).keep K213 (nnS (by omega) nn0)).keep K215 (nnS (by omega) nn0)).keep K217 (nnS (by omega) nn0)).keep K219 (nnS (by omega) nn0)).keep K221 (nnS (by omega) nn0)).keep K223 (nnS (by omega) nn0))
  refine wkP.callI 448 (M_init1 l Z a0 g _ a202 a205 [c0, c1, c2, c3, c4, c5, c6, c7, c8] A223 hch (by simp) _ _ E202_224 F203_225 F204_226) [(.ref a205)] [(.ref a202)] 1 g.2.1 (w9 g.1) (w10 g.1) (w8 g.1) (w11 g.1) rfl rfl (by decide) dtext_445 (lenOf pd14 rfl) rfl rfl rfl (by simp) (Nat.le_of_eq rfl) (by decide) (by decide) (by decide) (by decide) rfl ?_
  rintro v227 h227 o227 ⟨d227, rfl, rfl, H227⟩ K227
  have z227 := K227.1
  exact wkP.retA (.object "java/lang/String") [] g.2.1 dtext_448 rfl rfl (by decide) (by decide) (by simp) ⟨a202, _, rfl, rfl, H227⟩
set_option maxRecDepth 65536 in
set_option maxHeartbeats 4000000 in
theorem M_text10 (l : Launch) (Z : State) (a0 : Array Value) (g : G Z a0) (h : Heap) (b : Addr) (c0 c1 c2 c3 c4 c5 c6 c7 c8 c9 : Int32) (F : Ia Z h b .char [c0, c1, c2, c3, c4, c5, c6, c7, c8, c9]) (hk : chs [c0, c1, c2, c3, c4, c5, c6, c7, c8, c9]) : wkM l Z btext rtext #[.ref b, .int 10] h [] (fun v h' os => ∃ s t, v = some (.ref s) ∧ os = [] ∧ St Z h' s t [c0, c1, c2, c3, c4, c5, c6, c7, c8, c9]) := by
  have hlb := F.lt
  refine wkM.of #[.val (.ref b), .val (.int (10 : Int32))] (plainFor_of_name (by first | (simp [plainName, overriddenIn]; done) | decide +kernel)) (fun m => by first | rfl | (simp [entryFrame, mkF, argsToLocals, Value.category]; done)) ?_
  refine wkP.iloadN 1 dtext_0 rfl rfl ?_
  refine wkP.ifT 15 dtext_1 (show ¬ (10 : Int32) = (0 : Int32) from (by decide)) (by decide) (by decide) ?_
  refine wkP.iloadN 16 dtext_15 rfl rfl ?_
  refine wkP.iconst 17 (1 : Int32) dtext_16 rfl rfl ?_
  refine wkP.icmpT 37 dtext_17 (show ¬ (10 : Int32) = (1 : Int32) from (by decide)) (by decide) (by decide) ?_
  refine wkP.iloadN 38 dtext_37 rfl rfl ?_
  refine wkP.iconst 39 (2 : Int32) dtext_38 rfl rfl ?_
  refine wkP.icmpT 65 dtext_39 (show ¬ (10 : Int32) = (2 : Int32) from (by decide)) (by decide) (by decide) ?_
  refine wkP.iloadN 66 dtext_65 rfl rfl ?_
  refine wkP.iconst 67 (3 : Int32) dtext_66 rfl rfl ?_
  refine wkP.icmpT 99 dtext_67 (show ¬ (10 : Int32) = (3 : Int32) from (by decide)) (by decide) (by decide) ?_
  refine wkP.iloadN 100 dtext_99 rfl rfl ?_
  refine wkP.iconst 101 (4 : Int32) dtext_100 rfl rfl ?_
  refine wkP.icmpT 139 dtext_101 (show ¬ (10 : Int32) = (4 : Int32) from (by decide)) (by decide) (by decide) ?_
  refine wkP.iloadN 140 dtext_139 rfl rfl ?_
  refine wkP.iconst 141 (5 : Int32) dtext_140 rfl rfl ?_
  refine wkP.icmpT 185 dtext_141 (show ¬ (10 : Int32) = (5 : Int32) from (by decide)) (by decide) (by decide) ?_
  refine wkP.iloadN 186 dtext_185 rfl rfl ?_
  refine wkP.bipush 188 (6 : Int32) dtext_186 rfl rfl ?_
  refine wkP.icmpT 239 dtext_188 (show ¬ (10 : Int32) = (6 : Int32) from (by decide)) (by decide) (by decide) ?_
  refine wkP.iloadN 240 dtext_239 rfl rfl ?_
  refine wkP.bipush 242 (7 : Int32) dtext_240 rfl rfl ?_
  refine wkP.icmpT 301 dtext_242 (show ¬ (10 : Int32) = (7 : Int32) from (by decide)) (by decide) (by decide) ?_
  refine wkP.iloadN 302 dtext_301 rfl rfl ?_
  refine wkP.bipush 304 (8 : Int32) dtext_302 rfl rfl ?_
  refine wkP.icmpT 371 dtext_304 (show ¬ (10 : Int32) = (8 : Int32) from (by decide)) (by decide) (by decide) ?_
  refine wkP.iloadN 372 dtext_371 rfl rfl ?_
  refine wkP.bipush 374 (9 : Int32) dtext_372 rfl rfl ?_
  refine wkP.icmpT 449 dtext_374 (show ¬ (10 : Int32) = (9 : Int32) from (by decide)) (by decide) (by decide) ?_
  refine wkP.newO 452 (w6 g.1) (w7 g.1) (w8 g.1) dtext_449 (by decide) (by decide) rfl ?_
  intro h228 a228 g228 l228 K228 E228 D228 U228
  have z228 := K228.1
  have F229 := D228 (Or.inr (w22 g.1)) (ty := .byte) (by decide)
  have F230 := D228 (Or.inr (w21 g.1)) (ty := (.array .byte)) (by decide)
  refine wkP.dup 453 dtext_452 rfl rfl ?_
  refine wkP.bipush 455 (10 : Int32) dtext_453 rfl rfl ?_
  refine wkP.newP 457 .char 10 10 (w1 g.1) rfl rfl rfl dtext_455 rfl (by decide) (by decide) (by decide) (by decide) rfl ?_
  intro h231 a231 g231 l231 K231 A231
  have z231 := K231.1
  replace A231 : Ia Z h231 a231 .char [(0 : Int32), (0 : Int32), (0 : Int32), (0 : Int32), (0 : Int32), (0 : Int32), (0 : Int32), (0 : Int32), (0 : Int32), (0 : Int32)] := A231
  refine wkP.dup 458 dtext_457 rfl rfl ?_
  refine wkP.iconst 459 (0 : Int32) dtext_458 rfl rfl ?_
  refine wkP.aloadN 460 dtext_459 rfl rfl rfl ?_
  refine wkP.iconst 461 (0 : Int32) dtext_460 rfl rfl ?_
  have F_232 := ((F.keep K228 nn0).keep K231 nn0)
  refine wkP.caload 462 0 c0 F_232 dtext_461 rfl rfl rfl ?_
  refine wkP.stC 463 0 c0 A231 dtext_462 rfl (by simp) (nar_c (hk c0 (by simp))) (by simp) rfl ?_
  intro h233 K233 A233
  have z233 := K233.1
  replace A233 : Ia Z h233 a231 .char [c0, (0 : Int32), (0 : Int32), (0 : Int32), (0 : Int32), (0 : Int32), (0 : Int32), (0 : Int32), (0 : Int32), (0 : Int32)] := A233
  refine wkP.dup 464 dtext_463 rfl rfl ?_
  refine wkP.iconst 465 (1 : Int32) dtext_464 rfl rfl ?_
  refine wkP.aloadN 466 dtext_465 rfl rfl rfl ?_
  refine wkP.iconst 467 (1 : Int32) dtext_466 rfl rfl ?_
  have F_234 := (F_232.keep K233 (nnS (by omega) nn0))
  refine wkP.caload 468 1 c1 F_234 dtext_467 rfl rfl rfl ?_
  refine wkP.stC 469 1 c1 A233 dtext_468 rfl (by simp) (nar_c (hk c1 (by simp))) (by simp) rfl ?_
  intro h235 K235 A235
  have z235 := K235.1
  replace A235 : Ia Z h235 a231 .char [c0, c1, (0 : Int32), (0 : Int32), (0 : Int32), (0 : Int32), (0 : Int32), (0 : Int32), (0 : Int32), (0 : Int32)] := A235
  refine wkP.dup 470 dtext_469 rfl rfl ?_
  refine wkP.iconst 471 (2 : Int32) dtext_470 rfl rfl ?_
  refine wkP.aloadN 472 dtext_471 rfl rfl rfl ?_
  refine wkP.iconst 473 (2 : Int32) dtext_472 rfl rfl ?_
  have F_236 := (F_234.keep K235 (nnS (by omega) nn0))
  refine wkP.caload 474 2 c2 F_236 dtext_473 rfl rfl rfl ?_
  refine wkP.stC 475 2 c2 A235 dtext_474 rfl (by simp) (nar_c (hk c2 (by simp))) (by simp) rfl ?_
  intro h237 K237 A237
  have z237 := K237.1
  replace A237 : Ia Z h237 a231 .char [c0, c1, c2, (0 : Int32), (0 : Int32), (0 : Int32), (0 : Int32), (0 : Int32), (0 : Int32), (0 : Int32)] := A237
  refine wkP.dup 476 dtext_475 rfl rfl ?_
  refine wkP.iconst 477 (3 : Int32) dtext_476 rfl rfl ?_
  refine wkP.aloadN 478 dtext_477 rfl rfl rfl ?_
  refine wkP.iconst 479 (3 : Int32) dtext_478 rfl rfl ?_
  have F_238 := (F_236.keep K237 (nnS (by omega) nn0))
  refine wkP.caload 480 3 c3 F_238 dtext_479 rfl rfl rfl ?_
  refine wkP.stC 481 3 c3 A237 dtext_480 rfl (by simp) (nar_c (hk c3 (by simp))) (by simp) rfl ?_
  intro h239 K239 A239
  have z239 := K239.1
  replace A239 : Ia Z h239 a231 .char [c0, c1, c2, c3, (0 : Int32), (0 : Int32), (0 : Int32), (0 : Int32), (0 : Int32), (0 : Int32)] := A239
  refine wkP.dup 482 dtext_481 rfl rfl ?_
  refine wkP.iconst 483 (4 : Int32) dtext_482 rfl rfl ?_
  refine wkP.aloadN 484 dtext_483 rfl rfl rfl ?_
  refine wkP.iconst 485 (4 : Int32) dtext_484 rfl rfl ?_
  have F_240 := (F_238.keep K239 (nnS (by omega) nn0))
  refine wkP.caload 486 4 c4 F_240 dtext_485 rfl rfl rfl ?_
  refine wkP.stC 487 4 c4 A239 dtext_486 rfl (by simp) (nar_c (hk c4 (by simp))) (by simp) rfl ?_
  intro h241 K241 A241
  have z241 := K241.1
  replace A241 : Ia Z h241 a231 .char [c0, c1, c2, c3, c4, (0 : Int32), (0 : Int32), (0 : Int32), (0 : Int32), (0 : Int32)] := A241
  refine wkP.dup 488 dtext_487 rfl rfl ?_
  refine wkP.iconst 489 (5 : Int32) dtext_488 rfl rfl ?_
  refine wkP.aloadN 490 dtext_489 rfl rfl rfl ?_
  refine wkP.iconst 491 (5 : Int32) dtext_490 rfl rfl ?_
  have F_242 := (F_240.keep K241 (nnS (by omega) nn0))
  refine wkP.caload 492 5 c5 F_242 dtext_491 rfl rfl rfl ?_
  refine wkP.stC 493 5 c5 A241 dtext_492 rfl (by simp) (nar_c (hk c5 (by simp))) (by simp) rfl ?_
  intro h243 K243 A243
  have z243 := K243.1
  replace A243 : Ia Z h243 a231 .char [c0, c1, c2, c3, c4, c5, (0 : Int32), (0 : Int32), (0 : Int32), (0 : Int32)] := A243
  refine wkP.dup 494 dtext_493 rfl rfl ?_
  refine wkP.bipush 496 (6 : Int32) dtext_494 rfl rfl ?_
  refine wkP.aloadN 497 dtext_496 rfl rfl rfl ?_
  refine wkP.bipush 499 (6 : Int32) dtext_497 rfl rfl ?_
  have F_244 := (F_242.keep K243 (nnS (by omega) nn0))
  refine wkP.caload 500 6 c6 F_244 dtext_499 rfl rfl rfl ?_
  refine wkP.stC 501 6 c6 A243 dtext_500 rfl (by simp) (nar_c (hk c6 (by simp))) (by simp) rfl ?_
  intro h245 K245 A245
  have z245 := K245.1
  replace A245 : Ia Z h245 a231 .char [c0, c1, c2, c3, c4, c5, c6, (0 : Int32), (0 : Int32), (0 : Int32)] := A245
  refine wkP.dup 502 dtext_501 rfl rfl ?_
  refine wkP.bipush 504 (7 : Int32) dtext_502 rfl rfl ?_
  refine wkP.aloadN 505 dtext_504 rfl rfl rfl ?_
  refine wkP.bipush 507 (7 : Int32) dtext_505 rfl rfl ?_
  have F_246 := (F_244.keep K245 (nnS (by omega) nn0))
  refine wkP.caload 508 7 c7 F_246 dtext_507 rfl rfl rfl ?_
  refine wkP.stC 509 7 c7 A245 dtext_508 rfl (by simp) (nar_c (hk c7 (by simp))) (by simp) rfl ?_
  intro h247 K247 A247
  have z247 := K247.1
  replace A247 : Ia Z h247 a231 .char [c0, c1, c2, c3, c4, c5, c6, c7, (0 : Int32), (0 : Int32)] := A247
  refine wkP.dup 510 dtext_509 rfl rfl ?_
  refine wkP.bipush 512 (8 : Int32) dtext_510 rfl rfl ?_
  refine wkP.aloadN 513 dtext_512 rfl rfl rfl ?_
  refine wkP.bipush 515 (8 : Int32) dtext_513 rfl rfl ?_
  have F_248 := (F_246.keep K247 (nnS (by omega) nn0))
  refine wkP.caload 516 8 c8 F_248 dtext_515 rfl rfl rfl ?_
  refine wkP.stC 517 8 c8 A247 dtext_516 rfl (by simp) (nar_c (hk c8 (by simp))) (by simp) rfl ?_
  intro h249 K249 A249
  have z249 := K249.1
  replace A249 : Ia Z h249 a231 .char [c0, c1, c2, c3, c4, c5, c6, c7, c8, (0 : Int32)] := A249
  refine wkP.dup 518 dtext_517 rfl rfl ?_
  refine wkP.bipush 520 (9 : Int32) dtext_518 rfl rfl ?_
  refine wkP.aloadN 521 dtext_520 rfl rfl rfl ?_
  refine wkP.bipush 523 (9 : Int32) dtext_521 rfl rfl ?_
  have F_250 := (F_248.keep K249 (nnS (by omega) nn0))
  refine wkP.caload 524 9 c9 F_250 dtext_523 rfl rfl rfl ?_
  refine wkP.stC 525 9 c9 A249 dtext_524 rfl (by simp) (nar_c (hk c9 (by simp))) (by simp) rfl ?_
  intro h251 K251 A251
  have z251 := K251.1
  replace A251 : Ia Z h251 a231 .char [c0, c1, c2, c3, c4, c5, c6, c7, c8, c9] := A251
  have hch : chs [c0, c1, c2, c3, c4, c5, c6, c7, c8, c9] := by
    intro c hc
    simp only [List.mem_cons, List.not_mem_nil, or_false] at hc
    rcases hc with rfl | rfl | rfl | rfl | rfl | rfl | rfl | rfl | rfl | rfl
    · exact hk _ (by simp)
    · exact hk _ (by simp)
    · exact hk _ (by simp)
    · exact hk _ (by simp)
    · exact hk _ (by simp)
    · exact hk _ (by simp)
    · exact hk _ (by simp)
    · exact hk _ (by simp)
    · exact hk _ (by simp)
    · exact hk _ (by simp)
  have E228_252 := (((((((((((E228.keep K231).keep K233).keep K235).keep K237).keep K239).keep K241).keep K243).keep K245).keep K247).keep K249).keep K251)
  have F229_253 := (((((((((((F229.keep K231 nn0).keep K233 (nnS (by omega) nn0)).keep K235 (nnS (by omega) nn0)).keep K237 (nnS (by omega) nn0)).keep K239 (nnS (by omega) nn0)).keep K241 (nnS (by omega) nn0)).keep K243 (nnS (by omega) nn0)).keep K245 (nnS (by omega) nn0)).keep K247 (nnS (by omega) nn0)).keep K249 (nnS (by omega) nn0)).keep K251 (nnS (by omega) nn0))
  have F230_254 := (((((((((((F230.keep K231 nn0).keep K233 (nnS (by omega) nn0)).keep K235 (nnS (by omega) nn0)).keep K237 (nnS (by omega) nn0)).keep K239 (nnS (by omega) nn0)).keep K241 (nnS (by omega) nn0)).keep K243 (nnS (by omega) nn0)).keep K245 (nnS (by omega) nn0)).keep K247 (nnS (by omega) nn0)).keep K249 (nnS (by omega) nn0)).keep K251 (nnS (by omega) nn0))
  refine wkP.callI 528 (M_init1 l Z a0 g _ a228 a231 [c0, c1, c2, c3, c4, c5, c6, c7, c8, c9] A251 hch (by simp) _ _ E228_252 F229_253 F230_254) [(.ref a231)] [(.ref a228)] 1 g.2.1 (w9 g.1) (w10 g.1) (w8 g.1) (w11 g.1) rfl rfl (by decide) dtext_525 (lenOf pd14 rfl) rfl rfl rfl (by simp) (Nat.le_of_eq rfl) (by decide) (by decide) (by decide) (by decide) rfl ?_
  rintro v255 h255 o255 ⟨d255, rfl, rfl, H255⟩ K255
  have z255 := K255.1
  exact wkP.retA (.object "java/lang/String") [] g.2.1 dtext_528 rfl rfl (by decide) (by decide) (by simp) ⟨a228, _, rfl, rfl, H255⟩
abbrev rslot : Room := { frames := 5, cells := 0, slots := 0, locals := 67 }
set_option maxRecDepth 65536 in
set_option maxHeartbeats 4000000 in
theorem M_slot0 (l : Launch) (Z : State) (a0 : Array Value) (g : G Z a0) (h : Heap) (a b : Addr) (c0 c1 c2 c3 c4 c5 c6 c7 c8 c9 : Int32) (F : St Z h a b []) : wkM l Z bslot rslot #[.ref a] h [] (fun v h' os => v = some (.int ((((0 : Int32) * (-1640531527 : Int32))).toUInt32 >>> ((26 : Int32) &&& 31).toUInt32).toInt32) ∧ os = [] ∧ h = h') := by
  refine wkM.of #[.val (.ref a), .unset, .unset, .unset] (plainFor_of_name (by first | (simp [plainName, overriddenIn]; done) | decide +kernel)) (fun m => by first | rfl | (simp [entryFrame, mkF, argsToLocals, Value.category]; done)) ?_
  refine wkP.aloadN 1 dslot_0 rfl rfl rfl ?_
  refine wkP.callV 4 (M_len l Z a0 g _ a b [] F) [] [] 0 g.2.1 F.exa (wkNFs (w34 g.1)) (w31 g.1) (w32 g.1) (w34 g.1) (w33 g.1) (w8 g.1) (w35 g.1) (by decide) dslot_1 (lenOf pd15 rfl) rfl rfl rfl (by simp) (Nat.le_of_eq rfl) (by decide) (by decide) (by decide) (by decide) rfl ?_
  rintro v256 _ o256 ⟨rfl, rfl, rfl⟩ K256
  refine wkP.istoreN 5 #[.val (.ref a), .val (.int (0 : Int32)), .unset, .unset] dslot_4 rfl rfl ?_
  refine wkP.iloadN 6 dslot_5 rfl rfl ?_
  refine wkP.istoreN 7 #[.val (.ref a), .val (.int (0 : Int32)), .val (.int (0 : Int32)), .unset] dslot_6 rfl rfl ?_
  refine wkP.iloadN 8 dslot_7 rfl rfl ?_
  refine wkP.ifT 67 dslot_8 (show ¬ (0 : Int32) < (0 : Int32) from (by decide)) (by decide) (by decide) ?_
  refine wkP.iloadN 68 dslot_67 rfl rfl ?_
  refine wkP.ldcI 70 (w42 g.1) dslot_68 rfl ?_
  refine wkP.imul 71 ((0 : Int32) * (-1640531527 : Int32)) dslot_70 rfl rfl ?_
  refine wkP.bipush 73 (26 : Int32) dslot_71 rfl rfl ?_
  refine wkP.iushr 74 ((((0 : Int32) * (-1640531527 : Int32))).toUInt32 >>> ((26 : Int32) &&& 31).toUInt32).toInt32 dslot_73 rfl rfl ?_
  exact wkP.retI .int [] g.2.1 dslot_74 rfl (by simp) rfl (by decide) (by decide) (by simp) ⟨rfl, rfl, rfl⟩
set_option maxRecDepth 65536 in
set_option maxHeartbeats 4000000 in
theorem M_slot1 (l : Launch) (Z : State) (a0 : Array Value) (g : G Z a0) (h : Heap) (a b : Addr) (c0 c1 c2 c3 c4 c5 c6 c7 c8 c9 : Int32) (F : St Z h a b [c0]) : wkM l Z bslot rslot #[.ref a] h [] (fun v h' os => v = some (.int ((((((31 : Int32) * (((31 : Int32) * (((31 : Int32) * (((31 : Int32) * (1 : Int32)) + c0)) + c0)) + c0)) + c0) * (-1640531527 : Int32))).toUInt32 >>> ((26 : Int32) &&& 31).toUInt32).toInt32) ∧ os = [] ∧ h = h') := by
  refine wkM.of #[.val (.ref a), .unset, .unset, .unset] (plainFor_of_name (by first | (simp [plainName, overriddenIn]; done) | decide +kernel)) (fun m => by first | rfl | (simp [entryFrame, mkF, argsToLocals, Value.category]; done)) ?_
  refine wkP.aloadN 1 dslot_0 rfl rfl rfl ?_
  refine wkP.callV 4 (M_len l Z a0 g _ a b [c0] F) [] [] 0 g.2.1 F.exa (wkNFs (w34 g.1)) (w31 g.1) (w32 g.1) (w34 g.1) (w33 g.1) (w8 g.1) (w35 g.1) (by decide) dslot_1 (lenOf pd15 rfl) rfl rfl rfl (by simp) (Nat.le_of_eq rfl) (by decide) (by decide) (by decide) (by decide) rfl ?_
  rintro v257 _ o257 ⟨rfl, rfl, rfl⟩ K257
  refine wkP.istoreN 5 #[.val (.ref a), .val (.int (1 : Int32)), .unset, .unset] dslot_4 rfl rfl ?_
  refine wkP.iloadN 6 dslot_5 rfl rfl ?_
  refine wkP.istoreN 7 #[.val (.ref a), .val (.int (1 : Int32)), .val (.int (1 : Int32)), .unset] dslot_6 rfl rfl ?_
  refine wkP.iloadN 8 dslot_7 rfl rfl ?_
  refine wkP.ifF 11 dslot_8 (show ¬ (¬ (0 : Int32) < (1 : Int32)) from (by decide)) rfl ?_
  refine wkP.iloadN 12 dslot_11 rfl rfl ?_
  refine wkP.iconst 13 (1 : Int32) dslot_12 rfl rfl ?_
  refine wkP.isub 14 (0 : Int32) dslot_13 (by decide) rfl ?_
  refine wkP.istoreN 15 #[.val (.ref a), .val (.int (1 : Int32)), .val (.int (1 : Int32)), .val (.int (0 : Int32))] dslot_14 rfl rfl ?_
  refine wkP.bipush 17 (31 : Int32) dslot_15 rfl rfl ?_
  refine wkP.iloadN 18 dslot_17 rfl rfl ?_
  refine wkP.imul 19 ((31 : Int32) * (1 : Int32)) dslot_18 rfl rfl ?_
  refine wkP.aloadN 20 dslot_19 rfl rfl rfl ?_
  refine wkP.iloadN 21 dslot_20 rfl rfl ?_
  refine wkP.iconst 22 (2 : Int32) dslot_21 rfl rfl ?_
  refine wkP.ishr 23 (0 : Int32) dslot_22 (by decide) rfl ?_
  refine wkP.callV 26 (M_chAt l Z a0 g _ a b [c0] F 0 c0 rfl (F.ch c0 (by simp))) [(.int (0 : Int32))] [(.int ((31 : Int32) * (1 : Int32)))] 1 g.2.1 F.exa (wkNFs (w77 g.1)) (w74 g.1) (w75 g.1) (w77 g.1) (w76 g.1) (w8 g.1) (w78 g.1) (by decide) dslot_23 (lenOf pd16 rfl) rfl rfl rfl (by simp) (Nat.le_of_eq rfl) (by decide) (by decide) (by decide) (by decide) rfl ?_
  rintro v258 _ o258 ⟨rfl, rfl, rfl⟩ K258
  refine wkP.iadd 27 (((31 : Int32) * (1 : Int32)) + c0) dslot_26 rfl rfl ?_
  refine wkP.istoreN 28 #[.val (.ref a), .val (.int (1 : Int32)), .val (.int (((31 : Int32) * (1 : Int32)) + c0)), .val (.int (0 : Int32))] dslot_27 rfl rfl ?_
  refine wkP.bipush 30 (31 : Int32) dslot_28 rfl rfl ?_
  refine wkP.iloadN 31 dslot_30 rfl rfl ?_
  refine wkP.imul 32 ((31 : Int32) * (((31 : Int32) * (1 : Int32)) + c0)) dslot_31 rfl rfl ?_
  refine wkP.aloadN 33 dslot_32 rfl rfl rfl ?_
  refine wkP.iloadN 34 dslot_33 rfl rfl ?_
  refine wkP.iconst 35 (1 : Int32) dslot_34 rfl rfl ?_
  refine wkP.ishr 36 (0 : Int32) dslot_35 (by decide) rfl ?_
  refine wkP.callV 39 (M_chAt l Z a0 g _ a b [c0] F 0 c0 rfl (F.ch c0 (by simp))) [(.int (0 : Int32))] [(.int ((31 : Int32) * (((31 : Int32) * (1 : Int32)) + c0)))] 1 g.2.1 F.exa (wkNFs (w77 g.1)) (w74 g.1) (w75 g.1) (w77 g.1) (w76 g.1) (w8 g.1) (w78 g.1) (by decide) dslot_36 (lenOf pd16 rfl) rfl rfl rfl (by simp) (Nat.le_of_eq rfl) (by decide) (by decide) (by decide) (by decide) rfl ?_
  rintro v259 _ o259 ⟨rfl, rfl, rfl⟩ K259
  refine wkP.iadd 40 (((31 : Int32) * (((31 : Int32) * (1 : Int32)) + c0)) + c0) dslot_39 rfl rfl ?_
  refine wkP.istoreN 41 #[.val (.ref a), .val (.int (1 : Int32)), .val (.int (((31 : Int32) * (((31 : Int32) * (1 : Int32)) + c0)) + c0)), .val (.int (0 : Int32))] dslot_40 rfl rfl ?_
  refine wkP.bipush 43 (31 : Int32) dslot_41 rfl rfl ?_
  refine wkP.iloadN 44 dslot_43 rfl rfl ?_
  refine wkP.imul 45 ((31 : Int32) * (((31 : Int32) * (((31 : Int32) * (1 : Int32)) + c0)) + c0)) dslot_44 rfl rfl ?_
  refine wkP.aloadN 46 dslot_45 rfl rfl rfl ?_
  refine wkP.iloadN 47 dslot_46 rfl rfl ?_
  refine wkP.iloadN 48 dslot_47 rfl rfl ?_
  refine wkP.iconst 49 (2 : Int32) dslot_48 rfl rfl ?_
  refine wkP.ishr 50 (0 : Int32) dslot_49 (by decide) rfl ?_
  refine wkP.isub 51 (0 : Int32) dslot_50 (by decide) rfl ?_
  refine wkP.callV 54 (M_chAt l Z a0 g _ a b [c0] F 0 c0 rfl (F.ch c0 (by simp))) [(.int (0 : Int32))] [(.int ((31 : Int32) * (((31 : Int32) * (((31 : Int32) * (1 : Int32)) + c0)) + c0)))] 1 g.2.1 F.exa (wkNFs (w77 g.1)) (w74 g.1) (w75 g.1) (w77 g.1) (w76 g.1) (w8 g.1) (w78 g.1) (by decide) dslot_51 (lenOf pd16 rfl) rfl rfl rfl (by simp) (Nat.le_of_eq rfl) (by decide) (by decide) (by decide) (by decide) rfl ?_
  rintro v260 _ o260 ⟨rfl, rfl, rfl⟩ K260
  refine wkP.iadd 55 (((31 : Int32) * (((31 : Int32) * (((31 : Int32) * (1 : Int32)) + c0)) + c0)) + c0) dslot_54 rfl rfl ?_
  refine wkP.istoreN 56 #[.val (.ref a), .val (.int (1 : Int32)), .val (.int (((31 : Int32) * (((31 : Int32) * (((31 : Int32) * (1 : Int32)) + c0)) + c0)) + c0)), .val (.int (0 : Int32))] dslot_55 rfl rfl ?_
  refine wkP.bipush 58 (31 : Int32) dslot_56 rfl rfl ?_
  refine wkP.iloadN 59 dslot_58 rfl rfl ?_
  refine wkP.imul 60 ((31 : Int32) * (((31 : Int32) * (((31 : Int32) * (((31 : Int32) * (1 : Int32)) + c0)) + c0)) + c0)) dslot_59 rfl rfl ?_
  refine wkP.aloadN 61 dslot_60 rfl rfl rfl ?_
  refine wkP.iloadN 62 dslot_61 rfl rfl ?_
  refine wkP.callV 65 (M_chAt l Z a0 g _ a b [c0] F 0 c0 rfl (F.ch c0 (by simp))) [(.int (0 : Int32))] [(.int ((31 : Int32) * (((31 : Int32) * (((31 : Int32) * (((31 : Int32) * (1 : Int32)) + c0)) + c0)) + c0)))] 1 g.2.1 F.exa (wkNFs (w77 g.1)) (w74 g.1) (w75 g.1) (w77 g.1) (w76 g.1) (w8 g.1) (w78 g.1) (by decide) dslot_62 (lenOf pd16 rfl) rfl rfl rfl (by simp) (Nat.le_of_eq rfl) (by decide) (by decide) (by decide) (by decide) rfl ?_
  rintro v261 _ o261 ⟨rfl, rfl, rfl⟩ K261
  refine wkP.iadd 66 (((31 : Int32) * (((31 : Int32) * (((31 : Int32) * (((31 : Int32) * (1 : Int32)) + c0)) + c0)) + c0)) + c0) dslot_65 rfl rfl ?_
  refine wkP.istoreN 67 #[.val (.ref a), .val (.int (1 : Int32)), .val (.int (((31 : Int32) * (((31 : Int32) * (((31 : Int32) * (((31 : Int32) * (1 : Int32)) + c0)) + c0)) + c0)) + c0)), .val (.int (0 : Int32))] dslot_66 rfl rfl ?_
  refine wkP.iloadN 68 dslot_67 rfl rfl ?_
  refine wkP.ldcI 70 (w42 g.1) dslot_68 rfl ?_
  refine wkP.imul 71 ((((31 : Int32) * (((31 : Int32) * (((31 : Int32) * (((31 : Int32) * (1 : Int32)) + c0)) + c0)) + c0)) + c0) * (-1640531527 : Int32)) dslot_70 rfl rfl ?_
  refine wkP.bipush 73 (26 : Int32) dslot_71 rfl rfl ?_
  refine wkP.iushr 74 ((((((31 : Int32) * (((31 : Int32) * (((31 : Int32) * (((31 : Int32) * (1 : Int32)) + c0)) + c0)) + c0)) + c0) * (-1640531527 : Int32))).toUInt32 >>> ((26 : Int32) &&& 31).toUInt32).toInt32 dslot_73 rfl rfl ?_
  exact wkP.retI .int [] g.2.1 dslot_74 rfl (by simp) rfl (by decide) (by decide) (by simp) ⟨rfl, rfl, rfl⟩
set_option maxRecDepth 65536 in
set_option maxHeartbeats 4000000 in
theorem M_slot2 (l : Launch) (Z : State) (a0 : Array Value) (g : G Z a0) (h : Heap) (a b : Addr) (c0 c1 c2 c3 c4 c5 c6 c7 c8 c9 : Int32) (F : St Z h a b [c0, c1]) : wkM l Z bslot rslot #[.ref a] h [] (fun v h' os => v = some (.int ((((((31 : Int32) * (((31 : Int32) * (((31 : Int32) * (((31 : Int32) * (2 : Int32)) + c0)) + c0)) + c1)) + c1) * (-1640531527 : Int32))).toUInt32 >>> ((26 : Int32) &&& 31).toUInt32).toInt32) ∧ os = [] ∧ h = h') := by
  refine wkM.of #[.val (.ref a), .unset, .unset, .unset] (plainFor_of_name (by first | (simp [plainName, overriddenIn]; done) | decide +kernel)) (fun m => by first | rfl | (simp [entryFrame, mkF, argsToLocals, Value.category]; done)) ?_
  refine wkP.aloadN 1 dslot_0 rfl rfl rfl ?_
  refine wkP.callV 4 (M_len l Z a0 g _ a b [c0, c1] F) [] [] 0 g.2.1 F.exa (wkNFs (w34 g.1)) (w31 g.1) (w32 g.1) (w34 g.1) (w33 g.1) (w8 g.1) (w35 g.1) (by decide) dslot_1 (lenOf pd15 rfl) rfl rfl rfl (by simp) (Nat.le_of_eq rfl) (by decide) (by decide) (by decide) (by decide) rfl ?_
  rintro v262 _ o262 ⟨rfl, rfl, rfl⟩ K262
  refine wkP.istoreN 5 #[.val (.ref a), .val (.int (2 : Int32)), .unset, .unset] dslot_4 rfl rfl ?_
  refine wkP.iloadN 6 dslot_5 rfl rfl ?_
  refine wkP.istoreN 7 #[.val (.ref a), .val (.int (2 : Int32)), .val (.int (2 : Int32)), .unset] dslot_6 rfl rfl ?_
  refine wkP.iloadN 8 dslot_7 rfl rfl ?_
  refine wkP.ifF 11 dslot_8 (show ¬ (¬ (0 : Int32) < (2 : Int32)) from (by decide)) rfl ?_
  refine wkP.iloadN 12 dslot_11 rfl rfl ?_
  refine wkP.iconst 13 (1 : Int32) dslot_12 rfl rfl ?_
  refine wkP.isub 14 (1 : Int32) dslot_13 (by decide) rfl ?_
  refine wkP.istoreN 15 #[.val (.ref a), .val (.int (2 : Int32)), .val (.int (2 : Int32)), .val (.int (1 : Int32))] dslot_14 rfl rfl ?_
  refine wkP.bipush 17 (31 : Int32) dslot_15 rfl rfl ?_
  refine wkP.iloadN 18 dslot_17 rfl rfl ?_
  refine wkP.imul 19 ((31 : Int32) * (2 : Int32)) dslot_18 rfl rfl ?_
  refine wkP.aloadN 20 dslot_19 rfl rfl rfl ?_
  refine wkP.iloadN 21 dslot_20 rfl rfl ?_
  refine wkP.iconst 22 (2 : Int32) dslot_21 rfl rfl ?_
  refine wkP.ishr 23 (0 : Int32) dslot_22 (by decide) rfl ?_
  refine wkP.callV 26 (M_chAt l Z a0 g _ a b [c0, c1] F 0 c0 rfl (F.ch c0 (by simp))) [(.int (0 : Int32))] [(.int ((31 : Int32) * (2 : Int32)))] 1 g.2.1 F.exa (wkNFs (w77 g.1)) (w74 g.1) (w75 g.1) (w77 g.1) (w76 g.1) (w8 g.1) (w78 g.1) (by decide) dslot_23 (lenOf pd16 rfl) rfl rfl rfl (by simp) (Nat.le_of_eq rfl) (by decide) (by decide) (by decide) (by decide) rfl ?_
  rintro v263 _ o263 ⟨rfl, rfl, rfl⟩ K263
  refine wkP.iadd 27 (((31 : Int32) * (2 : Int32)) + c0) dslot_26 rfl rfl ?_
  refine wkP.istoreN 28 #[.val (.ref a), .val (.int (2 : Int32)), .val (.int (((31 : Int32) * (2 : Int32)) + c0)), .val (.int (1 : Int32))] dslot_27 rfl rfl ?_
  refine wkP.bipush 30 (31 : Int32) dslot_28 rfl rfl ?_
  refine wkP.iloadN 31 dslot_30 rfl rfl ?_
  refine wkP.imul 32 ((31 : Int32) * (((31 : Int32) * (2 : Int32)) + c0)) dslot_31 rfl rfl ?_
  refine wkP.aloadN 33 dslot_32 rfl rfl rfl ?_
  refine wkP.iloadN 34 dslot_33 rfl rfl ?_
  refine wkP.iconst 35 (1 : Int32) dslot_34 rfl rfl ?_
  refine wkP.ishr 36 (0 : Int32) dslot_35 (by decide) rfl ?_
  refine wkP.callV 39 (M_chAt l Z a0 g _ a b [c0, c1] F 0 c0 rfl (F.ch c0 (by simp))) [(.int (0 : Int32))] [(.int ((31 : Int32) * (((31 : Int32) * (2 : Int32)) + c0)))] 1 g.2.1 F.exa (wkNFs (w77 g.1)) (w74 g.1) (w75 g.1) (w77 g.1) (w76 g.1) (w8 g.1) (w78 g.1) (by decide) dslot_36 (lenOf pd16 rfl) rfl rfl rfl (by simp) (Nat.le_of_eq rfl) (by decide) (by decide) (by decide) (by decide) rfl ?_
  rintro v264 _ o264 ⟨rfl, rfl, rfl⟩ K264
  refine wkP.iadd 40 (((31 : Int32) * (((31 : Int32) * (2 : Int32)) + c0)) + c0) dslot_39 rfl rfl ?_
  refine wkP.istoreN 41 #[.val (.ref a), .val (.int (2 : Int32)), .val (.int (((31 : Int32) * (((31 : Int32) * (2 : Int32)) + c0)) + c0)), .val (.int (1 : Int32))] dslot_40 rfl rfl ?_
  refine wkP.bipush 43 (31 : Int32) dslot_41 rfl rfl ?_
  refine wkP.iloadN 44 dslot_43 rfl rfl ?_
  refine wkP.imul 45 ((31 : Int32) * (((31 : Int32) * (((31 : Int32) * (2 : Int32)) + c0)) + c0)) dslot_44 rfl rfl ?_
  refine wkP.aloadN 46 dslot_45 rfl rfl rfl ?_
  refine wkP.iloadN 47 dslot_46 rfl rfl ?_
  refine wkP.iloadN 48 dslot_47 rfl rfl ?_
  refine wkP.iconst 49 (2 : Int32) dslot_48 rfl rfl ?_
  refine wkP.ishr 50 (0 : Int32) dslot_49 (by decide) rfl ?_
  refine wkP.isub 51 (1 : Int32) dslot_50 (by decide) rfl ?_
  refine wkP.callV 54 (M_chAt l Z a0 g _ a b [c0, c1] F 1 c1 rfl (F.ch c1 (by simp))) [(.int (1 : Int32))] [(.int ((31 : Int32) * (((31 : Int32) * (((31 : Int32) * (2 : Int32)) + c0)) + c0)))] 1 g.2.1 F.exa (wkNFs (w77 g.1)) (w74 g.1) (w75 g.1) (w77 g.1) (w76 g.1) (w8 g.1) (w78 g.1) (by decide) dslot_51 (lenOf pd16 rfl) rfl rfl rfl (by simp) (Nat.le_of_eq rfl) (by decide) (by decide) (by decide) (by decide) rfl ?_
  rintro v265 _ o265 ⟨rfl, rfl, rfl⟩ K265
  refine wkP.iadd 55 (((31 : Int32) * (((31 : Int32) * (((31 : Int32) * (2 : Int32)) + c0)) + c0)) + c1) dslot_54 rfl rfl ?_
  refine wkP.istoreN 56 #[.val (.ref a), .val (.int (2 : Int32)), .val (.int (((31 : Int32) * (((31 : Int32) * (((31 : Int32) * (2 : Int32)) + c0)) + c0)) + c1)), .val (.int (1 : Int32))] dslot_55 rfl rfl ?_
  refine wkP.bipush 58 (31 : Int32) dslot_56 rfl rfl ?_
  refine wkP.iloadN 59 dslot_58 rfl rfl ?_
  refine wkP.imul 60 ((31 : Int32) * (((31 : Int32) * (((31 : Int32) * (((31 : Int32) * (2 : Int32)) + c0)) + c0)) + c1)) dslot_59 rfl rfl ?_
  refine wkP.aloadN 61 dslot_60 rfl rfl rfl ?_
  refine wkP.iloadN 62 dslot_61 rfl rfl ?_
  refine wkP.callV 65 (M_chAt l Z a0 g _ a b [c0, c1] F 1 c1 rfl (F.ch c1 (by simp))) [(.int (1 : Int32))] [(.int ((31 : Int32) * (((31 : Int32) * (((31 : Int32) * (((31 : Int32) * (2 : Int32)) + c0)) + c0)) + c1)))] 1 g.2.1 F.exa (wkNFs (w77 g.1)) (w74 g.1) (w75 g.1) (w77 g.1) (w76 g.1) (w8 g.1) (w78 g.1) (by decide) dslot_62 (lenOf pd16 rfl) rfl rfl rfl (by simp) (Nat.le_of_eq rfl) (by decide) (by decide) (by decide) (by decide) rfl ?_
  rintro v266 _ o266 ⟨rfl, rfl, rfl⟩ K266
  refine wkP.iadd 66 (((31 : Int32) * (((31 : Int32) * (((31 : Int32) * (((31 : Int32) * (2 : Int32)) + c0)) + c0)) + c1)) + c1) dslot_65 rfl rfl ?_
  refine wkP.istoreN 67 #[.val (.ref a), .val (.int (2 : Int32)), .val (.int (((31 : Int32) * (((31 : Int32) * (((31 : Int32) * (((31 : Int32) * (2 : Int32)) + c0)) + c0)) + c1)) + c1)), .val (.int (1 : Int32))] dslot_66 rfl rfl ?_
  refine wkP.iloadN 68 dslot_67 rfl rfl ?_
  refine wkP.ldcI 70 (w42 g.1) dslot_68 rfl ?_
  refine wkP.imul 71 ((((31 : Int32) * (((31 : Int32) * (((31 : Int32) * (((31 : Int32) * (2 : Int32)) + c0)) + c0)) + c1)) + c1) * (-1640531527 : Int32)) dslot_70 rfl rfl ?_
  refine wkP.bipush 73 (26 : Int32) dslot_71 rfl rfl ?_
  refine wkP.iushr 74 ((((((31 : Int32) * (((31 : Int32) * (((31 : Int32) * (((31 : Int32) * (2 : Int32)) + c0)) + c0)) + c1)) + c1) * (-1640531527 : Int32))).toUInt32 >>> ((26 : Int32) &&& 31).toUInt32).toInt32 dslot_73 rfl rfl ?_
  exact wkP.retI .int [] g.2.1 dslot_74 rfl (by simp) rfl (by decide) (by decide) (by simp) ⟨rfl, rfl, rfl⟩
set_option maxRecDepth 65536 in
set_option maxHeartbeats 4000000 in
theorem M_slot3 (l : Launch) (Z : State) (a0 : Array Value) (g : G Z a0) (h : Heap) (a b : Addr) (c0 c1 c2 c3 c4 c5 c6 c7 c8 c9 : Int32) (F : St Z h a b [c0, c1, c2]) : wkM l Z bslot rslot #[.ref a] h [] (fun v h' os => v = some (.int ((((((31 : Int32) * (((31 : Int32) * (((31 : Int32) * (((31 : Int32) * (3 : Int32)) + c0)) + c1)) + c2)) + c2) * (-1640531527 : Int32))).toUInt32 >>> ((26 : Int32) &&& 31).toUInt32).toInt32) ∧ os = [] ∧ h = h') := by
  refine wkM.of #[.val (.ref a), .unset, .unset, .unset] (plainFor_of_name (by first | (simp [plainName, overriddenIn]; done) | decide +kernel)) (fun m => by first | rfl | (simp [entryFrame, mkF, argsToLocals, Value.category]; done)) ?_
  refine wkP.aloadN 1 dslot_0 rfl rfl rfl ?_
  refine wkP.callV 4 (M_len l Z a0 g _ a b [c0, c1, c2] F) [] [] 0 g.2.1 F.exa (wkNFs (w34 g.1)) (w31 g.1) (w32 g.1) (w34 g.1) (w33 g.1) (w8 g.1) (w35 g.1) (by decide) dslot_1 (lenOf pd15 rfl) rfl rfl rfl (by simp) (Nat.le_of_eq rfl) (by decide) (by decide) (by decide) (by decide) rfl ?_
  rintro v267 _ o267 ⟨rfl, rfl, rfl⟩ K267
  refine wkP.istoreN 5 #[.val (.ref a), .val (.int (3 : Int32)), .unset, .unset] dslot_4 rfl rfl ?_
  refine wkP.iloadN 6 dslot_5 rfl rfl ?_
  refine wkP.istoreN 7 #[.val (.ref a), .val (.int (3 : Int32)), .val (.int (3 : Int32)), .unset] dslot_6 rfl rfl ?_
  refine wkP.iloadN 8 dslot_7 rfl rfl ?_
  refine wkP.ifF 11 dslot_8 (show ¬ (¬ (0 : Int32) < (3 : Int32)) from (by decide)) rfl ?_
  refine wkP.iloadN 12 dslot_11 rfl rfl ?_
  refine wkP.iconst 13 (1 : Int32) dslot_12 rfl rfl ?_
  refine wkP.isub 14 (2 : Int32) dslot_13 (by decide) rfl ?_
  refine wkP.istoreN 15 #[.val (.ref a), .val (.int (3 : Int32)), .val (.int (3 : Int32)), .val (.int (2 : Int32))] dslot_14 rfl rfl ?_
  refine wkP.bipush 17 (31 : Int32) dslot_15 rfl rfl ?_
  refine wkP.iloadN 18 dslot_17 rfl rfl ?_
  refine wkP.imul 19 ((31 : Int32) * (3 : Int32)) dslot_18 rfl rfl ?_
  refine wkP.aloadN 20 dslot_19 rfl rfl rfl ?_
  refine wkP.iloadN 21 dslot_20 rfl rfl ?_
  refine wkP.iconst 22 (2 : Int32) dslot_21 rfl rfl ?_
  refine wkP.ishr 23 (0 : Int32) dslot_22 (by decide) rfl ?_
  refine wkP.callV 26 (M_chAt l Z a0 g _ a b [c0, c1, c2] F 0 c0 rfl (F.ch c0 (by simp))) [(.int (0 : Int32))] [(.int ((31 : Int32) * (3 : Int32)))] 1 g.2.1 F.exa (wkNFs (w77 g.1)) (w74 g.1) (w75 g.1) (w77 g.1) (w76 g.1) (w8 g.1) (w78 g.1) (by decide) dslot_23 (lenOf pd16 rfl) rfl rfl rfl (by simp) (Nat.le_of_eq rfl) (by decide) (by decide) (by decide) (by decide) rfl ?_
  rintro v268 _ o268 ⟨rfl, rfl, rfl⟩ K268
  refine wkP.iadd 27 (((31 : Int32) * (3 : Int32)) + c0) dslot_26 rfl rfl ?_
  refine wkP.istoreN 28 #[.val (.ref a), .val (.int (3 : Int32)), .val (.int (((31 : Int32) * (3 : Int32)) + c0)), .val (.int (2 : Int32))] dslot_27 rfl rfl ?_
  refine wkP.bipush 30 (31 : Int32) dslot_28 rfl rfl ?_
  refine wkP.iloadN 31 dslot_30 rfl rfl ?_
  refine wkP.imul 32 ((31 : Int32) * (((31 : Int32) * (3 : Int32)) + c0)) dslot_31 rfl rfl ?_
  refine wkP.aloadN 33 dslot_32 rfl rfl rfl ?_
  refine wkP.iloadN 34 dslot_33 rfl rfl ?_
  refine wkP.iconst 35 (1 : Int32) dslot_34 rfl rfl ?_
  refine wkP.ishr 36 (1 : Int32) dslot_35 (by decide) rfl ?_
  refine wkP.callV 39 (M_chAt l Z a0 g _ a b [c0, c1, c2] F 1 c1 rfl (F.ch c1 (by simp))) [(.int (1 : Int32))] [(.int ((31 : Int32) * (((31 : Int32) * (3 : Int32)) + c0)))] 1 g.2.1 F.exa (wkNFs (w77 g.1)) (w74 g.1) (w75 g.1) (w77 g.1) (w76 g.1) (w8 g.1) (w78 g.1) (by decide) dslot_36 (lenOf pd16 rfl) rfl rfl rfl (by simp) (Nat.le_of_eq rfl) (by decide) (by decide) (by decide) (by decide) rfl ?_
  rintro v269 _ o269 ⟨rfl, rfl, rfl⟩ K269
  refine wkP.iadd 40 (((31 : Int32) * (((31 : Int32) * (3 : Int32)) + c0)) + c1) dslot_39 rfl rfl ?_
  refine wkP.istoreN 41 #[.val (.ref a), .val (.int (3 : Int32)), .val (.int (((31 : Int32) * (((31 : Int32) * (3 : Int32)) + c0)) + c1)), .val (.int (2 : Int32))] dslot_40 rfl rfl ?_
  refine wkP.bipush 43 (31 : Int32) dslot_41 rfl rfl ?_
  refine wkP.iloadN 44 dslot_43 rfl rfl ?_
  refine wkP.imul 45 ((31 : Int32) * (((31 : Int32) * (((31 : Int32) * (3 : Int32)) + c0)) + c1)) dslot_44 rfl rfl ?_
  refine wkP.aloadN 46 dslot_45 rfl rfl rfl ?_
  refine wkP.iloadN 47 dslot_46 rfl rfl ?_
  refine wkP.iloadN 48 dslot_47 rfl rfl ?_
  refine wkP.iconst 49 (2 : Int32) dslot_48 rfl rfl ?_
  refine wkP.ishr 50 (0 : Int32) dslot_49 (by decide) rfl ?_
  refine wkP.isub 51 (2 : Int32) dslot_50 (by decide) rfl ?_
  refine wkP.callV 54 (M_chAt l Z a0 g _ a b [c0, c1, c2] F 2 c2 rfl (F.ch c2 (by simp))) [(.int (2 : Int32))] [(.int ((31 : Int32) * (((31 : Int32) * (((31 : Int32) * (3 : Int32)) + c0)) + c1)))] 1 g.2.1 F.exa (wkNFs (w77 g.1)) (w74 g.1) (w75 g.1) (w77 g.1) (w76 g.1) (w8 g.1) (w78 g.1) (by decide) dslot_51 (lenOf pd16 rfl) rfl rfl rfl (by simp) (Nat.le_of_eq rfl) (by decide) (by decide) (by decide) (by decide) rfl ?_
  rintro v270 _ o270 ⟨rfl, rfl, rfl⟩ K270
  refine wkP.iadd 55 (((31 : Int32) * (((31 : Int32) * (((31 : Int32) * (3 : Int32)) + c0)) + c1)) + c2) dslot_54 rfl rfl ?_
  refine wkP.istoreN 56 #[.val (.ref a), .val (.int (3 : Int32)), .val (.int (((31 : Int32) * (((31 : Int32) * (((31 : Int32) * (3 : Int32)) + c0)) + c1)) + c2)), .val (.int (2 : Int32))] dslot_55 rfl rfl ?_
  refine wkP.bipush 58 (31 : Int32) dslot_56 rfl rfl ?_
  refine wkP.iloadN 59 dslot_58 rfl rfl ?_
  refine wkP.imul 60 ((31 : Int32) * (((31 : Int32) * (((31 : Int32) * (((31 : Int32) * (3 : Int32)) + c0)) + c1)) + c2)) dslot_59 rfl rfl ?_
  refine wkP.aloadN 61 dslot_60 rfl rfl rfl ?_
  refine wkP.iloadN 62 dslot_61 rfl rfl ?_
  refine wkP.callV 65 (M_chAt l Z a0 g _ a b [c0, c1, c2] F 2 c2 rfl (F.ch c2 (by simp))) [(.int (2 : Int32))] [(.int ((31 : Int32) * (((31 : Int32) * (((31 : Int32) * (((31 : Int32) * (3 : Int32)) + c0)) + c1)) + c2)))] 1 g.2.1 F.exa (wkNFs (w77 g.1)) (w74 g.1) (w75 g.1) (w77 g.1) (w76 g.1) (w8 g.1) (w78 g.1) (by decide) dslot_62 (lenOf pd16 rfl) rfl rfl rfl (by simp) (Nat.le_of_eq rfl) (by decide) (by decide) (by decide) (by decide) rfl ?_
  rintro v271 _ o271 ⟨rfl, rfl, rfl⟩ K271
  refine wkP.iadd 66 (((31 : Int32) * (((31 : Int32) * (((31 : Int32) * (((31 : Int32) * (3 : Int32)) + c0)) + c1)) + c2)) + c2) dslot_65 rfl rfl ?_
  refine wkP.istoreN 67 #[.val (.ref a), .val (.int (3 : Int32)), .val (.int (((31 : Int32) * (((31 : Int32) * (((31 : Int32) * (((31 : Int32) * (3 : Int32)) + c0)) + c1)) + c2)) + c2)), .val (.int (2 : Int32))] dslot_66 rfl rfl ?_
  refine wkP.iloadN 68 dslot_67 rfl rfl ?_
  refine wkP.ldcI 70 (w42 g.1) dslot_68 rfl ?_
  refine wkP.imul 71 ((((31 : Int32) * (((31 : Int32) * (((31 : Int32) * (((31 : Int32) * (3 : Int32)) + c0)) + c1)) + c2)) + c2) * (-1640531527 : Int32)) dslot_70 rfl rfl ?_
  refine wkP.bipush 73 (26 : Int32) dslot_71 rfl rfl ?_
  refine wkP.iushr 74 ((((((31 : Int32) * (((31 : Int32) * (((31 : Int32) * (((31 : Int32) * (3 : Int32)) + c0)) + c1)) + c2)) + c2) * (-1640531527 : Int32))).toUInt32 >>> ((26 : Int32) &&& 31).toUInt32).toInt32 dslot_73 rfl rfl ?_
  exact wkP.retI .int [] g.2.1 dslot_74 rfl (by simp) rfl (by decide) (by decide) (by simp) ⟨rfl, rfl, rfl⟩
set_option maxRecDepth 65536 in
set_option maxHeartbeats 4000000 in
theorem M_slot4 (l : Launch) (Z : State) (a0 : Array Value) (g : G Z a0) (h : Heap) (a b : Addr) (c0 c1 c2 c3 c4 c5 c6 c7 c8 c9 : Int32) (F : St Z h a b [c0, c1, c2, c3]) : wkM l Z bslot rslot #[.ref a] h [] (fun v h' os => v = some (.int ((((((31 : Int32) * (((31 : Int32) * (((31 : Int32) * (((31 : Int32) * (4 : Int32)) + c0)) + c1)) + c3)) + c3) * (-1640531527 : Int32))).toUInt32 >>> ((26 : Int32) &&& 31).toUInt32).toInt32) ∧ os = [] ∧ h = h') := by
  refine wkM.of #[.val (.ref a), .unset, .unset, .unset] (plainFor_of_name (by first | (simp [plainName, overriddenIn]; done) | decide +kernel)) (fun m => by first | rfl | (simp [entryFrame, mkF, argsToLocals, Value.category]; done)) ?_
  refine wkP.aloadN 1 dslot_0 rfl rfl rfl ?_
  refine wkP.callV 4 (M_len l Z a0 g _ a b [c0, c1, c2, c3] F) [] [] 0 g.2.1 F.exa (wkNFs (w34 g.1)) (w31 g.1) (w32 g.1) (w34 g.1) (w33 g.1) (w8 g.1) (w35 g.1) (by decide) dslot_1 (lenOf pd15 rfl) rfl rfl rfl (by simp) (Nat.le_of_eq rfl) (by decide) (by decide) (by decide) (by decide) rfl ?_
  rintro v272 _ o272 ⟨rfl, rfl, rfl⟩ K272
  refine wkP.istoreN 5 #[.val (.ref a), .val (.int (4 : Int32)), .unset, .unset] dslot_4 rfl rfl ?_
  refine wkP.iloadN 6 dslot_5 rfl rfl ?_
  refine wkP.istoreN 7 #[.val (.ref a), .val (.int (4 : Int32)), .val (.int (4 : Int32)), .unset] dslot_6 rfl rfl ?_
  refine wkP.iloadN 8 dslot_7 rfl rfl ?_
  refine wkP.ifF 11 dslot_8 (show ¬ (¬ (0 : Int32) < (4 : Int32)) from (by decide)) rfl ?_
  refine wkP.iloadN 12 dslot_11 rfl rfl ?_
  refine wkP.iconst 13 (1 : Int32) dslot_12 rfl rfl ?_
  refine wkP.isub 14 (3 : Int32) dslot_13 (by decide) rfl ?_
  refine wkP.istoreN 15 #[.val (.ref a), .val (.int (4 : Int32)), .val (.int (4 : Int32)), .val (.int (3 : Int32))] dslot_14 rfl rfl ?_
  refine wkP.bipush 17 (31 : Int32) dslot_15 rfl rfl ?_
  refine wkP.iloadN 18 dslot_17 rfl rfl ?_
  refine wkP.imul 19 ((31 : Int32) * (4 : Int32)) dslot_18 rfl rfl ?_
  refine wkP.aloadN 20 dslot_19 rfl rfl rfl ?_
  refine wkP.iloadN 21 dslot_20 rfl rfl ?_
  refine wkP.iconst 22 (2 : Int32) dslot_21 rfl rfl ?_
  refine wkP.ishr 23 (0 : Int32) dslot_22 (by decide) rfl ?_
  refine wkP.callV 26 (M_chAt l Z a0 g _ a b [c0, c1, c2, c3] F 0 c0 rfl (F.ch c0 (by simp))) [(.int (0 : Int32))] [(.int ((31 : Int32) * (4 : Int32)))] 1 g.2.1 F.exa (wkNFs (w77 g.1)) (w74 g.1) (w75 g.1) (w77 g.1) (w76 g.1) (w8 g.1) (w78 g.1) (by decide) dslot_23 (lenOf pd16 rfl) rfl rfl rfl (by simp) (Nat.le_of_eq rfl) (by decide) (by decide) (by decide) (by decide) rfl ?_
  rintro v273 _ o273 ⟨rfl, rfl, rfl⟩ K273
  refine wkP.iadd 27 (((31 : Int32) * (4 : Int32)) + c0) dslot_26 rfl rfl ?_
  refine wkP.istoreN 28 #[.val (.ref a), .val (.int (4 : Int32)), .val (.int (((31 : Int32) * (4 : Int32)) + c0)), .val (.int (3 : Int32))] dslot_27 rfl rfl ?_
  refine wkP.bipush 30 (31 : Int32) dslot_28 rfl rfl ?_
  refine wkP.iloadN 31 dslot_30 rfl rfl ?_
  refine wkP.imul 32 ((31 : Int32) * (((31 : Int32) * (4 : Int32)) + c0)) dslot_31 rfl rfl ?_
  refine wkP.aloadN 33 dslot_32 rfl rfl rfl ?_
  refine wkP.iloadN 34 dslot_33 rfl rfl ?_
  refine wkP.iconst 35 (1 : Int32) dslot_34 rfl rfl ?_
  refine wkP.ishr 36 (1 : Int32) dslot_35 (by decide) rfl ?_
  refine wkP.callV 39 (M_chAt l Z a0 g _ a b [c0, c1, c2, c3] F 1 c1 rfl (F.ch c1 (by simp))) [(.int (1 : Int32))] [(.int ((31 : Int32) * (((31 : Int32) * (4 : Int32)) + c0)))] 1 g.2.1 F.exa (wkNFs (w77 g.1)) (w74 g.1) (w75 g.1) (w77 g.1) (w76 g.1) (w8 g.1) (w78 g.1) (by decide) dslot_36 (lenOf pd16 rfl) rfl rfl rfl (by simp) (Nat.le_of_eq rfl) (by decide) (by decide) (by decide) (by decide) rfl ?_
  rintro v274 _ o274 ⟨rfl, rfl, rfl⟩ K274
  refine wkP.iadd 40 (((31 : Int32) * (((31 : Int32) * (4 : Int32)) + c0)) + c1) dslot_39 rfl rfl ?_
  refine wkP.istoreN 41 #[.val (.ref a), .val (.int (4 : Int32)), .val (.int (((31 : Int32) * (((31 : Int32) * (4 : Int32)) + c0)) + c1)), .val (.int (3 : Int32))] dslot_40 rfl rfl ?_
  refine wkP.bipush 43 (31 : Int32) dslot_41 rfl rfl ?_
  refine wkP.iloadN 44 dslot_43 rfl rfl ?_
  refine wkP.imul 45 ((31 : Int32) * (((31 : Int32) * (((31 : Int32) * (4 : Int32)) + c0)) + c1)) dslot_44 rfl rfl ?_
  refine wkP.aloadN 46 dslot_45 rfl rfl rfl ?_
  refine wkP.iloadN 47 dslot_46 rfl rfl ?_
  refine wkP.iloadN 48 dslot_47 rfl rfl ?_
  refine wkP.iconst 49 (2 : Int32) dslot_48 rfl rfl ?_
  refine wkP.ishr 50 (0 : Int32) dslot_49 (by decide) rfl ?_
  refine wkP.isub 51 (3 : Int32) dslot_50 (by decide) rfl ?_
  refine wkP.callV 54 (M_chAt l Z a0 g _ a b [c0, c1, c2, c3] F 3 c3 rfl (F.ch c3 (by simp))) [(.int (3 : Int32))] [(.int ((31 : Int32) * (((31 : Int32) * (((31 : Int32) * (4 : Int32)) + c0)) + c1)))] 1 g.2.1 F.exa (wkNFs (w77 g.1)) (w74 g.1) (w75 g.1) (w77 g.1) (w76 g.1) (w8 g.1) (w78 g.1) (by decide) dslot_51 (lenOf pd16 rfl) rfl rfl rfl (by simp) (Nat.le_of_eq rfl) (by decide) (by decide) (by decide) (by decide) rfl ?_
  rintro v275 _ o275 ⟨rfl, rfl, rfl⟩ K275
  refine wkP.iadd 55 (((31 : Int32) * (((31 : Int32) * (((31 : Int32) * (4 : Int32)) + c0)) + c1)) + c3) dslot_54 rfl rfl ?_
  refine wkP.istoreN 56 #[.val (.ref a), .val (.int (4 : Int32)), .val (.int (((31 : Int32) * (((31 : Int32) * (((31 : Int32) * (4 : Int32)) + c0)) + c1)) + c3)), .val (.int (3 : Int32))] dslot_55 rfl rfl ?_
  refine wkP.bipush 58 (31 : Int32) dslot_56 rfl rfl ?_
  refine wkP.iloadN 59 dslot_58 rfl rfl ?_
  refine wkP.imul 60 ((31 : Int32) * (((31 : Int32) * (((31 : Int32) * (((31 : Int32) * (4 : Int32)) + c0)) + c1)) + c3)) dslot_59 rfl rfl ?_
  refine wkP.aloadN 61 dslot_60 rfl rfl rfl ?_
  refine wkP.iloadN 62 dslot_61 rfl rfl ?_
  refine wkP.callV 65 (M_chAt l Z a0 g _ a b [c0, c1, c2, c3] F 3 c3 rfl (F.ch c3 (by simp))) [(.int (3 : Int32))] [(.int ((31 : Int32) * (((31 : Int32) * (((31 : Int32) * (((31 : Int32) * (4 : Int32)) + c0)) + c1)) + c3)))] 1 g.2.1 F.exa (wkNFs (w77 g.1)) (w74 g.1) (w75 g.1) (w77 g.1) (w76 g.1) (w8 g.1) (w78 g.1) (by decide) dslot_62 (lenOf pd16 rfl) rfl rfl rfl (by simp) (Nat.le_of_eq rfl) (by decide) (by decide) (by decide) (by decide) rfl ?_
  rintro v276 _ o276 ⟨rfl, rfl, rfl⟩ K276
  refine wkP.iadd 66 (((31 : Int32) * (((31 : Int32) * (((31 : Int32) * (((31 : Int32) * (4 : Int32)) + c0)) + c1)) + c3)) + c3) dslot_65 rfl rfl ?_
  refine wkP.istoreN 67 #[.val (.ref a), .val (.int (4 : Int32)), .val (.int (((31 : Int32) * (((31 : Int32) * (((31 : Int32) * (((31 : Int32) * (4 : Int32)) + c0)) + c1)) + c3)) + c3)), .val (.int (3 : Int32))] dslot_66 rfl rfl ?_
  refine wkP.iloadN 68 dslot_67 rfl rfl ?_
  refine wkP.ldcI 70 (w42 g.1) dslot_68 rfl ?_
  refine wkP.imul 71 ((((31 : Int32) * (((31 : Int32) * (((31 : Int32) * (((31 : Int32) * (4 : Int32)) + c0)) + c1)) + c3)) + c3) * (-1640531527 : Int32)) dslot_70 rfl rfl ?_
  refine wkP.bipush 73 (26 : Int32) dslot_71 rfl rfl ?_
  refine wkP.iushr 74 ((((((31 : Int32) * (((31 : Int32) * (((31 : Int32) * (((31 : Int32) * (4 : Int32)) + c0)) + c1)) + c3)) + c3) * (-1640531527 : Int32))).toUInt32 >>> ((26 : Int32) &&& 31).toUInt32).toInt32 dslot_73 rfl rfl ?_
  exact wkP.retI .int [] g.2.1 dslot_74 rfl (by simp) rfl (by decide) (by decide) (by simp) ⟨rfl, rfl, rfl⟩
set_option maxRecDepth 65536 in
set_option maxHeartbeats 4000000 in
theorem M_slot5 (l : Launch) (Z : State) (a0 : Array Value) (g : G Z a0) (h : Heap) (a b : Addr) (c0 c1 c2 c3 c4 c5 c6 c7 c8 c9 : Int32) (F : St Z h a b [c0, c1, c2, c3, c4]) : wkM l Z bslot rslot #[.ref a] h [] (fun v h' os => v = some (.int ((((((31 : Int32) * (((31 : Int32) * (((31 : Int32) * (((31 : Int32) * (5 : Int32)) + c1)) + c2)) + c3)) + c4) * (-1640531527 : Int32))).toUInt32 >>> ((26 : Int32) &&& 31).toUInt32).toInt32) ∧ os = [] ∧ h = h') := by
  refine wkM.of #[.val (.ref a), .unset, .unset, .unset] (plainFor_of_name (by first | (simp [plainName, overriddenIn]; done) | decide +kernel)) (fun m => by first | rfl | (simp [entryFrame, mkF, argsToLocals, Value.category]; done)) ?_
  refine wkP.aloadN 1 dslot_0 rfl rfl rfl ?_
  refine wkP.callV 4 (M_len l Z a0 g _ a b [c0, c1, c2, c3, c4] F) [] [] 0 g.2.1 F.exa (wkNFs (w34 g.1)) (w31 g.1) (w32 g.1) (w34 g.1) (w33 g.1) (w8 g.1) (w35 g.1) (by decide) dslot_1 (lenOf pd15 rfl) rfl rfl rfl (by simp) (Nat.le_of_eq rfl) (by decide) (by decide) (by decide) (by decide) rfl ?_
  rintro v277 _ o277 ⟨rfl, rfl, rfl⟩ K277
  refine wkP.istoreN 5 #[.val (.ref a), .val (.int (5 : Int32)), .unset, .unset] dslot_4 rfl rfl ?_
  refine wkP.iloadN 6 dslot_5 rfl rfl ?_
  refine wkP.istoreN 7 #[.val (.ref a), .val (.int (5 : Int32)), .val (.int (5 : Int32)), .unset] dslot_6 rfl rfl ?_
  refine wkP.iloadN 8 dslot_7 rfl rfl ?_
  refine wkP.ifF 11 dslot_8 (show ¬ (¬ (0 : Int32) < (5 : Int32)) from (by decide)) rfl ?_
  refine wkP.iloadN 12 dslot_11 rfl rfl ?_
  refine wkP.iconst 13 (1 : Int32) dslot_12 rfl rfl ?_
  refine wkP.isub 14 (4 : Int32) dslot_13 (by decide) rfl ?_
  refine wkP.istoreN 15 #[.val (.ref a), .val (.int (5 : Int32)), .val (.int (5 : Int32)), .val (.int (4 : Int32))] dslot_14 rfl rfl ?_
  refine wkP.bipush 17 (31 : Int32) dslot_15 rfl rfl ?_
  refine wkP.iloadN 18 dslot_17 rfl rfl ?_
  refine wkP.imul 19 ((31 : Int32) * (5 : Int32)) dslot_18 rfl rfl ?_
  refine wkP.aloadN 20 dslot_19 rfl rfl rfl ?_
  refine wkP.iloadN 21 dslot_20 rfl rfl ?_
  refine wkP.iconst 22 (2 : Int32) dslot_21 rfl rfl ?_
  refine wkP.ishr 23 (1 : Int32) dslot_22 (by decide) rfl ?_
  refine wkP.callV 26 (M_chAt l Z a0 g _ a b [c0, c1, c2, c3, c4] F 1 c1 rfl (F.ch c1 (by simp))) [(.int (1 : Int32))] [(.int ((31 : Int32) * (5 : Int32)))] 1 g.2.1 F.exa (wkNFs (w77 g.1)) (w74 g.1) (w75 g.1) (w77 g.1) (w76 g.1) (w8 g.1) (w78 g.1) (by decide) dslot_23 (lenOf pd16 rfl) rfl rfl rfl (by simp) (Nat.le_of_eq rfl) (by decide) (by decide) (by decide) (by decide) rfl ?_
  rintro v278 _ o278 ⟨rfl, rfl, rfl⟩ K278
  refine wkP.iadd 27 (((31 : Int32) * (5 : Int32)) + c1) dslot_26 rfl rfl ?_
  refine wkP.istoreN 28 #[.val (.ref a), .val (.int (5 : Int32)), .val (.int (((31 : Int32) * (5 : Int32)) + c1)), .val (.int (4 : Int32))] dslot_27 rfl rfl ?_
  refine wkP.bipush 30 (31 : Int32) dslot_28 rfl rfl ?_
  refine wkP.iloadN 31 dslot_30 rfl rfl ?_
  refine wkP.imul 32 ((31 : Int32) * (((31 : Int32) * (5 : Int32)) + c1)) dslot_31 rfl rfl ?_
  refine wkP.aloadN 33 dslot_32 rfl rfl rfl ?_
  refine wkP.iloadN 34 dslot_33 rfl rfl ?_
  refine wkP.iconst 35 (1 : Int32) dslot_34 rfl rfl ?_
  refine wkP.ishr 36 (2 : Int32) dslot_35 (by decide) rfl ?_
  refine wkP.callV 39 (M_chAt l Z a0 g _ a b [c0, c1, c2, c3, c4] F 2 c2 rfl (F.ch c2 (by simp))) [(.int (2 : Int32))] [(.int ((31 : Int32) * (((31 : Int32) * (5 : Int32)) + c1)))] 1 g.2.1 F.exa (wkNFs (w77 g.1)) (w74 g.1) (w75 g.1) (w77 g.1) (w76 g.1) (w8 g.1) (w78 g.1) (by decide) dslot_36 (lenOf pd16 rfl) rfl rfl rfl (by simp) (Nat.le_of_eq rfl) (by decide) (by decide) (by decide) (by decide) rfl ?_
  rintro v279 _ o279 ⟨rfl, rfl, rfl⟩ K279
  refine wkP.iadd 40 (((31 : Int32) * (((31 : Int32) * (5 : Int32)) + c1)) + c2) dslot_39 rfl rfl ?_
  refine wkP.istoreN 41 #[.val (.ref a), .val (.int (5 : Int32)), .val (.int (((31 : Int32) * (((31 : Int32) * (5 : Int32)) + c1)) + c2)), .val (.int (4 : Int32))] dslot_40 rfl rfl ?_
  refine wkP.bipush 43 (31 : Int32) dslot_41 rfl rfl ?_
  refine wkP.iloadN 44 dslot_43 rfl rfl ?_
  refine wkP.imul 45 ((31 : Int32) * (((31 : Int32) * (((31 : Int32) * (5 : Int32)) + c1)) + c2)) dslot_44 rfl rfl ?_
  refine wkP.aloadN 46 dslot_45 rfl rfl rfl ?_
  refine wkP.iloadN 47 dslot_46 rfl rfl ?_
  refine wkP.iloadN 48 dslot_47 rfl rfl ?_
  refine wkP.iconst 49 (2 : Int32) dslot_48 rfl rfl ?_
  refine wkP.ishr 50 (1 : Int32) dslot_49 (by decide) rfl ?_
  refine wkP.isub 51 (3 : Int32) dslot_50 (by decide) rfl ?_
  refine wkP.callV 54 (M_chAt l Z a0 g _ a b [c0, c1, c2, c3, c4] F 3 c3 rfl (F.ch c3 (by simp))) [(.int (3 : Int32))] [(.int ((31 : Int32) * (((31 : Int32) * (((31 : Int32) * (5 : Int32)) + c1)) + c2)))] 1 g.2.1 F.exa (wkNFs (w77 g.1)) (w74 g.1) (w75 g.1) (w77 g.1) (w76 g.1) (w8 g.1) (w78 g.1) (by decide) dslot_51 (lenOf pd16 rfl) rfl rfl rfl (by simp) (Nat.le_of_eq rfl) (by decide) (by decide) (by decide) (by decide) rfl ?_
  rintro v280 _ o280 ⟨rfl, rfl, rfl⟩ K280
  refine wkP.iadd 55 (((31 : Int32) * (((31 : Int32) * (((31 : Int32) * (5 : Int32)) + c1)) + c2)) + c3) dslot_54 rfl rfl ?_
  refine wkP.istoreN 56 #[.val (.ref a), .val (.int (5 : Int32)), .val (.int (((31 : Int32) * (((31 : Int32) * (((31 : Int32) * (5 : Int32)) + c1)) + c2)) + c3)), .val (.int (4 : Int32))] dslot_55 rfl rfl ?_
  refine wkP.bipush 58 (31 : Int32) dslot_56 rfl rfl ?_
  refine wkP.iloadN 59 dslot_58 rfl rfl ?_
  refine wkP.imul 60 ((31 : Int32) * (((31 : Int32) * (((31 : Int32) * (((31 : Int32) * (5 : Int32)) + c1)) + c2)) + c3)) dslot_59 rfl rfl ?_
  refine wkP.aloadN 61 dslot_60 rfl rfl rfl ?_
  refine wkP.iloadN 62 dslot_61 rfl rfl ?_
  refine wkP.callV 65 (M_chAt l Z a0 g _ a b [c0, c1, c2, c3, c4] F 4 c4 rfl (F.ch c4 (by simp))) [(.int (4 : Int32))] [(.int ((31 : Int32) * (((31 : Int32) * (((31 : Int32) * (((31 : Int32) * (5 : Int32)) + c1)) + c2)) + c3)))] 1 g.2.1 F.exa (wkNFs (w77 g.1)) (w74 g.1) (w75 g.1) (w77 g.1) (w76 g.1) (w8 g.1) (w78 g.1) (by decide) dslot_62 (lenOf pd16 rfl) rfl rfl rfl (by simp) (Nat.le_of_eq rfl) (by decide) (by decide) (by decide) (by decide) rfl ?_
  rintro v281 _ o281 ⟨rfl, rfl, rfl⟩ K281
  refine wkP.iadd 66 (((31 : Int32) * (((31 : Int32) * (((31 : Int32) * (((31 : Int32) * (5 : Int32)) + c1)) + c2)) + c3)) + c4) dslot_65 rfl rfl ?_
  refine wkP.istoreN 67 #[.val (.ref a), .val (.int (5 : Int32)), .val (.int (((31 : Int32) * (((31 : Int32) * (((31 : Int32) * (((31 : Int32) * (5 : Int32)) + c1)) + c2)) + c3)) + c4)), .val (.int (4 : Int32))] dslot_66 rfl rfl ?_
  refine wkP.iloadN 68 dslot_67 rfl rfl ?_
  refine wkP.ldcI 70 (w42 g.1) dslot_68 rfl ?_
  refine wkP.imul 71 ((((31 : Int32) * (((31 : Int32) * (((31 : Int32) * (((31 : Int32) * (5 : Int32)) + c1)) + c2)) + c3)) + c4) * (-1640531527 : Int32)) dslot_70 rfl rfl ?_
  refine wkP.bipush 73 (26 : Int32) dslot_71 rfl rfl ?_
  refine wkP.iushr 74 ((((((31 : Int32) * (((31 : Int32) * (((31 : Int32) * (((31 : Int32) * (5 : Int32)) + c1)) + c2)) + c3)) + c4) * (-1640531527 : Int32))).toUInt32 >>> ((26 : Int32) &&& 31).toUInt32).toInt32 dslot_73 rfl rfl ?_
  exact wkP.retI .int [] g.2.1 dslot_74 rfl (by simp) rfl (by decide) (by decide) (by simp) ⟨rfl, rfl, rfl⟩
set_option maxRecDepth 65536 in
set_option maxHeartbeats 4000000 in
theorem M_slot6 (l : Launch) (Z : State) (a0 : Array Value) (g : G Z a0) (h : Heap) (a b : Addr) (c0 c1 c2 c3 c4 c5 c6 c7 c8 c9 : Int32) (F : St Z h a b [c0, c1, c2, c3, c4, c5]) : wkM l Z bslot rslot #[.ref a] h [] (fun v h' os => v = some (.int ((((((31 : Int32) * (((31 : Int32) * (((31 : Int32) * (((31 : Int32) * (6 : Int32)) + c1)) + c2)) + c4)) + c5) * (-1640531527 : Int32))).toUInt32 >>> ((26 : Int32) &&& 31).toUInt32).toInt32) ∧ os = [] ∧ h = h') := by
  refine wkM.of #[.val (.ref a), .unset, .unset, .unset] (plainFor_of_name (by first | (simp [plainName, overriddenIn]; done) | decide +kernel)) (fun m => by first | rfl | (simp [entryFrame, mkF, argsToLocals, Value.category]; done)) ?_
  refine wkP.aloadN 1 dslot_0 rfl rfl rfl ?_
  refine wkP.callV 4 (M_len l Z a0 g _ a b [c0, c1, c2, c3, c4, c5] F) [] [] 0 g.2.1 F.exa (wkNFs (w34 g.1)) (w31 g.1) (w32 g.1) (w34 g.1) (w33 g.1) (w8 g.1) (w35 g.1) (by decide) dslot_1 (lenOf pd15 rfl) rfl rfl rfl (by simp) (Nat.le_of_eq rfl) (by decide) (by decide) (by decide) (by decide) rfl ?_
  rintro v282 _ o282 ⟨rfl, rfl, rfl⟩ K282
  refine wkP.istoreN 5 #[.val (.ref a), .val (.int (6 : Int32)), .unset, .unset] dslot_4 rfl rfl ?_
  refine wkP.iloadN 6 dslot_5 rfl rfl ?_
  refine wkP.istoreN 7 #[.val (.ref a), .val (.int (6 : Int32)), .val (.int (6 : Int32)), .unset] dslot_6 rfl rfl ?_
  refine wkP.iloadN 8 dslot_7 rfl rfl ?_
  refine wkP.ifF 11 dslot_8 (show ¬ (¬ (0 : Int32) < (6 : Int32)) from (by decide)) rfl ?_
  refine wkP.iloadN 12 dslot_11 rfl rfl ?_
  refine wkP.iconst 13 (1 : Int32) dslot_12 rfl rfl ?_
  refine wkP.isub 14 (5 : Int32) dslot_13 (by decide) rfl ?_
  refine wkP.istoreN 15 #[.val (.ref a), .val (.int (6 : Int32)), .val (.int (6 : Int32)), .val (.int (5 : Int32))] dslot_14 rfl rfl ?_
  refine wkP.bipush 17 (31 : Int32) dslot_15 rfl rfl ?_
  refine wkP.iloadN 18 dslot_17 rfl rfl ?_
  refine wkP.imul 19 ((31 : Int32) * (6 : Int32)) dslot_18 rfl rfl ?_
  refine wkP.aloadN 20 dslot_19 rfl rfl rfl ?_
  refine wkP.iloadN 21 dslot_20 rfl rfl ?_
  refine wkP.iconst 22 (2 : Int32) dslot_21 rfl rfl ?_
  refine wkP.ishr 23 (1 : Int32) dslot_22 (by decide) rfl ?_
  refine wkP.callV 26 (M_chAt l Z a0 g _ a b [c0, c1, c2, c3, c4, c5] F 1 c1 rfl (F.ch c1 (by simp))) [(.int (1 : Int32))] [(.int ((31 : Int32) * (6 : Int32)))] 1 g.2.1 F.exa (wkNFs (w77 g.1)) (w74 g.1) (w75 g.1) (w77 g.1) (w76 g.1) (w8 g.1) (w78 g.1) (by decide) dslot_23 (lenOf pd16 rfl) rfl rfl rfl (by simp) (Nat.le_of_eq rfl) (by decide) (by decide) (by decide) (by decide) rfl ?_
  rintro v283 _ o283 ⟨rfl, rfl, rfl⟩ K283
  refine wkP.iadd 27 (((31 : Int32) * (6 : Int32)) + c1) dslot_26 rfl rfl ?_
  refine wkP.istoreN 28 #[.val (.ref a), .val (.int (6 : Int32)), .val (.int (((31 : Int32) * (6 : Int32)) + c1)), .val (.int (5 : Int32))] dslot_27 rfl rfl ?_
  refine wkP.bipush 30 (31 : Int32) dslot_28 rfl rfl ?_
  refine wkP.iloadN 31 dslot_30 rfl rfl ?_
  refine wkP.imul 32 ((31 : Int32) * (((31 : Int32) * (6 : Int32)) + c1)) dslot_31 rfl rfl ?_
  refine wkP.aloadN 33 dslot_32 rfl rfl rfl ?_
  refine wkP.iloadN 34 dslot_33 rfl rfl ?_
  refine wkP.iconst 35 (1 : Int32) dslot_34 rfl rfl ?_
  refine wkP.ishr 36 (2 : Int32) dslot_35 (by decide) rfl ?_
  refine wkP.callV 39 (M_chAt l Z a0 g _ a b [c0, c1, c2, c3, c4, c5] F 2 c2 rfl (F.ch c2 (by simp))) [(.int (2 : Int32))] [(.int ((31 : Int32) * (((31 : Int32) * (6 : Int32)) + c1)))] 1 g.2.1 F.exa (wkNFs (w77 g.1)) (w74 g.1) (w75 g.1) (w77 g.1) (w76 g.1) (w8 g.1) (w78 g.1) (by decide) dslot_36 (lenOf pd16 rfl) rfl rfl rfl (by simp) (Nat.le_of_eq rfl) (by decide) (by decide) (by decide) (by decide) rfl ?_
  rintro v284 _ o284 ⟨rfl, rfl, rfl⟩ K284
  refine wkP.iadd 40 (((31 : Int32) * (((31 : Int32) * (6 : Int32)) + c1)) + c2) dslot_39 rfl rfl ?_
  refine wkP.istoreN 41 #[.val (.ref a), .val (.int (6 : Int32)), .val (.int (((31 : Int32) * (((31 : Int32) * (6 : Int32)) + c1)) + c2)), .val (.int (5 : Int32))] dslot_40 rfl rfl ?_
  refine wkP.bipush 43 (31 : Int32) dslot_41 rfl rfl ?_
  refine wkP.iloadN 44 dslot_43 rfl rfl ?_
  refine wkP.imul 45 ((31 : Int32) * (((31 : Int32) * (((31 : Int32) * (6 : Int32)) + c1)) + c2)) dslot_44 rfl rfl ?_
  refine wkP.aloadN 46 dslot_45 rfl rfl rfl ?_
  refine wkP.iloadN 47 dslot_46 rfl rfl ?_
  refine wkP.iloadN 48 dslot_47 rfl rfl ?_
  refine wkP.iconst 49 (2 : Int32) dslot_48 rfl rfl ?_
  refine wkP.ishr 50 (1 : Int32) dslot_49 (by decide) rfl ?_
  refine wkP.isub 51 (4 : Int32) dslot_50 (by decide) rfl ?_
  refine wkP.callV 54 (M_chAt l Z a0 g _ a b [c0, c1, c2, c3, c4, c5] F 4 c4 rfl (F.ch c4 (by simp))) [(.int (4 : Int32))] [(.int ((31 : Int32) * (((31 : Int32) * (((31 : Int32) * (6 : Int32)) + c1)) + c2)))] 1 g.2.1 F.exa (wkNFs (w77 g.1)) (w74 g.1) (w75 g.1) (w77 g.1) (w76 g.1) (w8 g.1) (w78 g.1) (by decide) dslot_51 (lenOf pd16 rfl) rfl rfl rfl (by simp) (Nat.le_of_eq rfl) (by decide) (by decide) (by decide) (by decide) rfl ?_
  rintro v285 _ o285 ⟨rfl, rfl, rfl⟩ K285
  refine wkP.iadd 55 (((31 : Int32) * (((31 : Int32) * (((31 : Int32) * (6 : Int32)) + c1)) + c2)) + c4) dslot_54 rfl rfl ?_
  refine wkP.istoreN 56 #[.val (.ref a), .val (.int (6 : Int32)), .val (.int (((31 : Int32) * (((31 : Int32) * (((31 : Int32) * (6 : Int32)) + c1)) + c2)) + c4)), .val (.int (5 : Int32))] dslot_55 rfl rfl ?_
  refine wkP.bipush 58 (31 : Int32) dslot_56 rfl rfl ?_
  refine wkP.iloadN 59 dslot_58 rfl rfl ?_
  refine wkP.imul 60 ((31 : Int32) * (((31 : Int32) * (((31 : Int32) * (((31 : Int32) * (6 : Int32)) + c1)) + c2)) + c4)) dslot_59 rfl rfl ?_
  refine wkP.aloadN 61 dslot_60 rfl rfl rfl ?_
  refine wkP.iloadN 62 dslot_61 rfl rfl ?_
  refine wkP.callV 65 (M_chAt l Z a0 g _ a b [c0, c1, c2, c3, c4, c5] F 5 c5 rfl (F.ch c5 (by simp))) [(.int (5 : Int32))] [(.int ((31 : Int32) * (((31 : Int32) * (((31 : Int32) * (((31 : Int32) * (6 : Int32)) + c1)) + c2)) + c4)))] 1 g.2.1 F.exa (wkNFs (w77 g.1)) (w74 g.1) (w75 g.1) (w77 g.1) (w76 g.1) (w8 g.1) (w78 g.1) (by decide) dslot_62 (lenOf pd16 rfl) rfl rfl rfl (by simp) (Nat.le_of_eq rfl) (by decide) (by decide) (by decide) (by decide) rfl ?_
  rintro v286 _ o286 ⟨rfl, rfl, rfl⟩ K286
  refine wkP.iadd 66 (((31 : Int32) * (((31 : Int32) * (((31 : Int32) * (((31 : Int32) * (6 : Int32)) + c1)) + c2)) + c4)) + c5) dslot_65 rfl rfl ?_
  refine wkP.istoreN 67 #[.val (.ref a), .val (.int (6 : Int32)), .val (.int (((31 : Int32) * (((31 : Int32) * (((31 : Int32) * (((31 : Int32) * (6 : Int32)) + c1)) + c2)) + c4)) + c5)), .val (.int (5 : Int32))] dslot_66 rfl rfl ?_
  refine wkP.iloadN 68 dslot_67 rfl rfl ?_
  refine wkP.ldcI 70 (w42 g.1) dslot_68 rfl ?_
  refine wkP.imul 71 ((((31 : Int32) * (((31 : Int32) * (((31 : Int32) * (((31 : Int32) * (6 : Int32)) + c1)) + c2)) + c4)) + c5) * (-1640531527 : Int32)) dslot_70 rfl rfl ?_
  refine wkP.bipush 73 (26 : Int32) dslot_71 rfl rfl ?_
  refine wkP.iushr 74 ((((((31 : Int32) * (((31 : Int32) * (((31 : Int32) * (((31 : Int32) * (6 : Int32)) + c1)) + c2)) + c4)) + c5) * (-1640531527 : Int32))).toUInt32 >>> ((26 : Int32) &&& 31).toUInt32).toInt32 dslot_73 rfl rfl ?_
  exact wkP.retI .int [] g.2.1 dslot_74 rfl (by simp) rfl (by decide) (by decide) (by simp) ⟨rfl, rfl, rfl⟩
set_option maxRecDepth 65536 in
set_option maxHeartbeats 4000000 in
theorem M_slot7 (l : Launch) (Z : State) (a0 : Array Value) (g : G Z a0) (h : Heap) (a b : Addr) (c0 c1 c2 c3 c4 c5 c6 c7 c8 c9 : Int32) (F : St Z h a b [c0, c1, c2, c3, c4, c5, c6]) : wkM l Z bslot rslot #[.ref a] h [] (fun v h' os => v = some (.int ((((((31 : Int32) * (((31 : Int32) * (((31 : Int32) * (((31 : Int32) * (7 : Int32)) + c1)) + c3)) + c5)) + c6) * (-1640531527 : Int32))).toUInt32 >>> ((26 : Int32) &&& 31).toUInt32).toInt32) ∧ os = [] ∧ h = h') := by
  refine wkM.of #[.val (.ref a), .unset, .unset, .unset] (plainFor_of_name (by first | (simp [plainName, overriddenIn]; done) | decide +kernel)) (fun m => by first | rfl | (simp [entryFrame, mkF, argsToLocals, Value.category]; done)) ?_
  refine wkP.aloadN 1 dslot_0 rfl rfl rfl ?_
  refine wkP.callV 4 (M_len l Z a0 g _ a b [c0, c1, c2, c3, c4, c5, c6] F) [] [] 0 g.2.1 F.exa (wkNFs (w34 g.1)) (w31 g.1) (w32 g.1) (w34 g.1) (w33 g.1) (w8 g.1) (w35 g.1) (by decide) dslot_1 (lenOf pd15 rfl) rfl rfl rfl (by simp) (Nat.le_of_eq rfl) (by decide) (by decide) (by decide) (by decide) rfl ?_
  rintro v287 _ o287 ⟨rfl, rfl, rfl⟩ K287
  refine wkP.istoreN 5 #[.val (.ref a), .val (.int (7 : Int32)), .unset, .unset] dslot_4 rfl rfl ?_
  refine wkP.iloadN 6 dslot_5 rfl rfl ?_
  refine wkP.istoreN 7 #[.val (.ref a), .val (.int (7 : Int32)), .val (.int (7 : Int32)), .unset] dslot_6 rfl rfl ?_
  refine wkP.iloadN 8 dslot_7 rfl rfl ?_
  refine wkP.ifF 11 dslot_8 (show ¬ (¬ (0 : Int32) < (7 : Int32)) from (by decide)) rfl ?_
  refine wkP.iloadN 12 dslot_11 rfl rfl ?_
  refine wkP.iconst 13 (1 : Int32) dslot_12 rfl rfl ?_
  refine wkP.isub 14 (6 : Int32) dslot_13 (by decide) rfl ?_
  refine wkP.istoreN 15 #[.val (.ref a), .val (.int (7 : Int32)), .val (.int (7 : Int32)), .val (.int (6 : Int32))] dslot_14 rfl rfl ?_
  refine wkP.bipush 17 (31 : Int32) dslot_15 rfl rfl ?_
  refine wkP.iloadN 18 dslot_17 rfl rfl ?_
  refine wkP.imul 19 ((31 : Int32) * (7 : Int32)) dslot_18 rfl rfl ?_
  refine wkP.aloadN 20 dslot_19 rfl rfl rfl ?_
  refine wkP.iloadN 21 dslot_20 rfl rfl ?_
  refine wkP.iconst 22 (2 : Int32) dslot_21 rfl rfl ?_
  refine wkP.ishr 23 (1 : Int32) dslot_22 (by decide) rfl ?_
  refine wkP.callV 26 (M_chAt l Z a0 g _ a b [c0, c1, c2, c3, c4, c5, c6] F 1 c1 rfl (F.ch c1 (by simp))) [(.int (1 : Int32))] [(.int ((31 : Int32) * (7 : Int32)))] 1 g.2.1 F.exa (wkNFs (w77 g.1)) (w74 g.1) (w75 g.1) (w77 g.1) (w76 g.1) (w8 g.1) (w78 g.1) (by decide) dslot_23 (lenOf pd16 rfl) rfl rfl rfl (by simp) (Nat.le_of_eq rfl) (by decide) (by decide) (by decide) (by decide) rfl ?_
  rintro v288 _ o288 ⟨rfl, rfl, rfl⟩ K288
  refine wkP.iadd 27 (((31 : Int32) * (7 : Int32)) + c1) dslot_26 rfl rfl ?_
  refine wkP.istoreN 28 #[.val (.ref a), .val (.int (7 : Int32)), .val (.int (((31 : Int32) * (7 : Int32)) + c1)), .val (.int (6 : Int32))] dslot_27 rfl rfl ?_
  refine wkP.bipush 30 (31 : Int32) dslot_28 rfl rfl ?_
  refine wkP.iloadN 31 dslot_30 rfl rfl ?_
  refine wkP.imul 32 ((31 : Int32) * (((31 : Int32) * (7 : Int32)) + c1)) dslot_31 rfl rfl ?_
  refine wkP.aloadN 33 dslot_32 rfl rfl rfl ?_
  refine wkP.iloadN 34 dslot_33 rfl rfl ?_
  refine wkP.iconst 35 (1 : Int32) dslot_34 rfl rfl ?_
  refine wkP.ishr 36 (3 : Int32) dslot_35 (by decide) rfl ?_
  refine wkP.callV 39 (M_chAt l Z a0 g _ a b [c0, c1, c2, c3, c4, c5, c6] F 3 c3 rfl (F.ch c3 (by simp))) [(.int (3 : Int32))] [(.int ((31 : Int32) * (((31 : Int32) * (7 : Int32)) + c1)))] 1 g.2.1 F.exa (wkNFs (w77 g.1)) (w74 g.1) (w75 g.1) (w77 g.1) (w76 g.1) (w8 g.1) (w78 g.1) (by decide) dslot_36 (lenOf pd16 rfl) rfl rfl rfl (by simp) (Nat.le_of_eq rfl) (by decide) (by decide) (by decide) (by decide) rfl ?_
  rintro v289 _ o289 ⟨rfl, rfl, rfl⟩ K289
  refine wkP.iadd 40 (((31 : Int32) * (((31 : Int32) * (7 : Int32)) + c1)) + c3) dslot_39 rfl rfl ?_
  refine wkP.istoreN 41 #[.val (.ref a), .val (.int (7 : Int32)), .val (.int (((31 : Int32) * (((31 : Int32) * (7 : Int32)) + c1)) + c3)), .val (.int (6 : Int32))] dslot_40 rfl rfl ?_
  refine wkP.bipush 43 (31 : Int32) dslot_41 rfl rfl ?_
  refine wkP.iloadN 44 dslot_43 rfl rfl ?_
  refine wkP.imul 45 ((31 : Int32) * (((31 : Int32) * (((31 : Int32) * (7 : Int32)) + c1)) + c3)) dslot_44 rfl rfl ?_
  refine wkP.aloadN 46 dslot_45 rfl rfl rfl ?_
  refine wkP.iloadN 47 dslot_46 rfl rfl ?_
  refine wkP.iloadN 48 dslot_47 rfl rfl ?_
  refine wkP.iconst 49 (2 : Int32) dslot_48 rfl rfl ?_
  refine wkP.ishr 50 (1 : Int32) dslot_49 (by decide) rfl ?_
  refine wkP.isub 51 (5 : Int32) dslot_50 (by decide) rfl ?_
  refine wkP.callV 54 (M_chAt l Z a0 g _ a b [c0, c1, c2, c3, c4, c5, c6] F 5 c5 rfl (F.ch c5 (by simp))) [(.int (5 : Int32))] [(.int ((31 : Int32) * (((31 : Int32) * (((31 : Int32) * (7 : Int32)) + c1)) + c3)))] 1 g.2.1 F.exa (wkNFs (w77 g.1)) (w74 g.1) (w75 g.1) (w77 g.1) (w76 g.1) (w8 g.1) (w78 g.1) (by decide) dslot_51 (lenOf pd16 rfl) rfl rfl rfl (by simp) (Nat.le_of_eq rfl) (by decide) (by decide) (by decide) (by decide) rfl ?_
  rintro v290 _ o290 ⟨rfl, rfl, rfl⟩ K290
  refine wkP.iadd 55 (((31 : Int32) * (((31 : Int32) * (((31 : Int32) * (7 : Int32)) + c1)) + c3)) + c5) dslot_54 rfl rfl ?_
  refine wkP.istoreN 56 #[.val (.ref a), .val (.int (7 : Int32)), .val (.int (((31 : Int32) * (((31 : Int32) * (((31 : Int32) * (7 : Int32)) + c1)) + c3)) + c5)), .val (.int (6 : Int32))] dslot_55 rfl rfl ?_
  refine wkP.bipush 58 (31 : Int32) dslot_56 rfl rfl ?_
  refine wkP.iloadN 59 dslot_58 rfl rfl ?_
  refine wkP.imul 60 ((31 : Int32) * (((31 : Int32) * (((31 : Int32) * (((31 : Int32) * (7 : Int32)) + c1)) + c3)) + c5)) dslot_59 rfl rfl ?_
  refine wkP.aloadN 61 dslot_60 rfl rfl rfl ?_
  refine wkP.iloadN 62 dslot_61 rfl rfl ?_
  refine wkP.callV 65 (M_chAt l Z a0 g _ a b [c0, c1, c2, c3, c4, c5, c6] F 6 c6 rfl (F.ch c6 (by simp))) [(.int (6 : Int32))] [(.int ((31 : Int32) * (((31 : Int32) * (((31 : Int32) * (((31 : Int32) * (7 : Int32)) + c1)) + c3)) + c5)))] 1 g.2.1 F.exa (wkNFs (w77 g.1)) (w74 g.1) (w75 g.1) (w77 g.1) (w76 g.1) (w8 g.1) (w78 g.1) (by decide) dslot_62 (lenOf pd16 rfl) rfl rfl rfl (by simp) (Nat.le_of_eq rfl) (by decide) (by decide) (by decide) (by decide) rfl ?_
  rintro v291 _ o291 ⟨rfl, rfl, rfl⟩ K291
  refine wkP.iadd 66 (((31 : Int32) * (((31 : Int32) * (((31 : Int32) * (((31 : Int32) * (7 : Int32)) + c1)) + c3)) + c5)) + c6) dslot_65 rfl rfl ?_
  refine wkP.istoreN 67 #[.val (.ref a), .val (.int (7 : Int32)), .val (.int (((31 : Int32) * (((31 : Int32) * (((31 : Int32) * (((31 : Int32) * (7 : Int32)) + c1)) + c3)) + c5)) + c6)), .val (.int (6 : Int32))] dslot_66 rfl rfl ?_
  refine wkP.iloadN 68 dslot_67 rfl rfl ?_
  refine wkP.ldcI 70 (w42 g.1) dslot_68 rfl ?_
  refine wkP.imul 71 ((((31 : Int32) * (((31 : Int32) * (((31 : Int32) * (((31 : Int32) * (7 : Int32)) + c1)) + c3)) + c5)) + c6) * (-1640531527 : Int32)) dslot_70 rfl rfl ?_
  refine wkP.bipush 73 (26 : Int32) dslot_71 rfl rfl ?_
  refine wkP.iushr 74 ((((((31 : Int32) * (((31 : Int32) * (((31 : Int32) * (((31 : Int32) * (7 : Int32)) + c1)) + c3)) + c5)) + c6) * (-1640531527 : Int32))).toUInt32 >>> ((26 : Int32) &&& 31).toUInt32).toInt32 dslot_73 rfl rfl ?_
  exact wkP.retI .int [] g.2.1 dslot_74 rfl (by simp) rfl (by decide) (by decide) (by simp) ⟨rfl, rfl, rfl⟩
set_option maxRecDepth 65536 in
set_option maxHeartbeats 4000000 in
theorem M_slot8 (l : Launch) (Z : State) (a0 : Array Value) (g : G Z a0) (h : Heap) (a b : Addr) (c0 c1 c2 c3 c4 c5 c6 c7 c8 c9 : Int32) (F : St Z h a b [c0, c1, c2, c3, c4, c5, c6, c7]) : wkM l Z bslot rslot #[.ref a] h [] (fun v h' os => v = some (.int ((((((31 : Int32) * (((31 : Int32) * (((31 : Int32) * (((31 : Int32) * (8 : Int32)) + c1)) + c3)) + c6)) + c7) * (-1640531527 : Int32))).toUInt32 >>> ((26 : Int32) &&& 31).toUInt32).toInt32) ∧ os = [] ∧ h = h') := by
  refine wkM.of #[.val (.ref a), .unset, .unset, .unset] (plainFor_of_name (by first | (simp [plainName, overriddenIn]; done) | decide +kernel)) (fun m => by first | rfl | (simp [entryFrame, mkF, argsToLocals, Value.category]; done)) ?_
  refine wkP.aloadN 1 dslot_0 rfl rfl rfl ?_
  refine wkP.callV 4 (M_len l Z a0 g _ a b [c0, c1, c2, c3, c4, c5, c6, c7] F) [] [] 0 g.2.1 F.exa (wkNFs (w34 g.1)) (w31 g.1) (w32 g.1) (w34 g.1) (w33 g.1) (w8 g.1) (w35 g.1) (by decide) dslot_1 (lenOf pd15 rfl) rfl rfl rfl (by simp) (Nat.le_of_eq rfl) (by decide) (by decide) (by decide) (by decide) rfl ?_
  rintro v292 _ o292 ⟨rfl, rfl, rfl⟩ K292
  refine wkP.istoreN 5 #[.val (.ref a), .val (.int (8 : Int32)), .unset, .unset] dslot_4 rfl rfl ?_
  refine wkP.iloadN 6 dslot_5 rfl rfl ?_
  refine wkP.istoreN 7 #[.val (.ref a), .val (.int (8 : Int32)), .val (.int (8 : Int32)), .unset] dslot_6 rfl rfl ?_
  refine wkP.iloadN 8 dslot_7 rfl rfl ?_
  refine wkP.ifF 11 dslot_8 (show ¬ (¬ (0 : Int32) < (8 : Int32)) from (by decide)) rfl ?_
  refine wkP.iloadN 12 dslot_11 rfl rfl ?_
  refine wkP.iconst 13 (1 : Int32) dslot_12 rfl rfl ?_
  refine wkP.isub 14 (7 : Int32) dslot_13 (by decide) rfl ?_
  refine wkP.istoreN 15 #[.val (.ref a), .val (.int (8 : Int32)), .val (.int (8 : Int32)), .val (.int (7 : Int32))] dslot_14 rfl rfl ?_
  refine wkP.bipush 17 (31 : Int32) dslot_15 rfl rfl ?_
  refine wkP.iloadN 18 dslot_17 rfl rfl ?_
  refine wkP.imul 19 ((31 : Int32) * (8 : Int32)) dslot_18 rfl rfl ?_
  refine wkP.aloadN 20 dslot_19 rfl rfl rfl ?_
  refine wkP.iloadN 21 dslot_20 rfl rfl ?_
  refine wkP.iconst 22 (2 : Int32) dslot_21 rfl rfl ?_
  refine wkP.ishr 23 (1 : Int32) dslot_22 (by decide) rfl ?_
  refine wkP.callV 26 (M_chAt l Z a0 g _ a b [c0, c1, c2, c3, c4, c5, c6, c7] F 1 c1 rfl (F.ch c1 (by simp))) [(.int (1 : Int32))] [(.int ((31 : Int32) * (8 : Int32)))] 1 g.2.1 F.exa (wkNFs (w77 g.1)) (w74 g.1) (w75 g.1) (w77 g.1) (w76 g.1) (w8 g.1) (w78 g.1) (by decide) dslot_23 (lenOf pd16 rfl) rfl rfl rfl (by simp) (Nat.le_of_eq rfl) (by decide) (by decide) (by decide) (by decide) rfl ?_
  rintro v293 _ o293 ⟨rfl, rfl, rfl⟩ K293
  refine wkP.iadd 27 (((31 : Int32) * (8 : Int32)) + c1) dslot_26 rfl rfl ?_
  refine wkP.istoreN 28 #[.val (.ref a), .val (.int (8 : Int32)), .val (.int (((31 : Int32) * (8 : Int32)) + c1)), .val (.int (7 : Int32))] dslot_27 rfl rfl ?_
  refine wkP.bipush 30 (31 : Int32) dslot_28 rfl rfl ?_
  refine wkP.iloadN 31 dslot_30 rfl rfl ?_
  refine wkP.imul 32 ((31 : Int32) * (((31 : Int32) * (8 : Int32)) + c1)) dslot_31 rfl rfl ?_
  refine wkP.aloadN 33 dslot_32 rfl rfl rfl ?_
  refine wkP.iloadN 34 dslot_33 rfl rfl ?_
  refine wkP.iconst 35 (1 : Int32) dslot_34 rfl rfl ?_
  refine wkP.ishr 36 (3 : Int32) dslot_35 (by decide) rfl ?_
  refine wkP.callV 39 (M_chAt l Z a0 g _ a b [c0, c1, c2, c3, c4, c5, c6, c7] F 3 c3 rfl (F.ch c3 (by simp))) [(.int (3 : Int32))] [(.int ((31 : Int32) * (((31 : Int32) * (8 : Int32)) + c1)))] 1 g.2.1 F.exa (wkNFs (w77 g.1)) (w74 g.1) (w75 g.1) (w77 g.1) (w76 g.1) (w8 g.1) (w78 g.1) (by decide) dslot_36 (lenOf pd16 rfl) rfl rfl rfl (by simp) (Nat.le_of_eq rfl) (by decide) (by decide) (by decide) (by decide) rfl ?_
  rintro v294 _ o294 ⟨rfl, rfl, rfl⟩ K294
  refine wkP.iadd 40 (((31 : Int32) * (((31 : Int32) * (8 : Int32)) + c1)) + c3) dslot_39 rfl rfl ?_
  refine wkP.istoreN 41 #[.val (.ref a), .val (.int (8 : Int32)), .val (.int (((31 : Int32) * (((31 : Int32) * (8 : Int32)) + c1)) + c3)), .val (.int (7 : Int32))] dslot_40 rfl rfl ?_
  refine wkP.bipush 43 (31 : Int32) dslot_41 rfl rfl ?_
  refine wkP.iloadN 44 dslot_43 rfl rfl ?_
  refine wkP.imul 45 ((31 : Int32) * (((31 : Int32) * (((31 : Int32) * (8 : Int32)) + c1)) + c3)) dslot_44 rfl rfl ?_
  refine wkP.aloadN 46 dslot_45 rfl rfl rfl ?_
  refine wkP.iloadN 47 dslot_46 rfl rfl ?_
  refine wkP.iloadN 48 dslot_47 rfl rfl ?_
  refine wkP.iconst 49 (2 : Int32) dslot_48 rfl rfl ?_
  refine wkP.ishr 50 (1 : Int32) dslot_49 (by decide) rfl ?_
  refine wkP.isub 51 (6 : Int32) dslot_50 (by decide) rfl ?_
  refine wkP.callV 54 (M_chAt l Z a0 g _ a b [c0, c1, c2, c3, c4, c5, c6, c7] F 6 c6 rfl (F.ch c6 (by simp))) [(.int (6 : Int32))] [(.int ((31 : Int32) * (((31 : Int32) * (((31 : Int32) * (8 : Int32)) + c1)) + c3)))] 1 g.2.1 F.exa (wkNFs (w77 g.1)) (w74 g.1) (w75 g.1) (w77 g.1) (w76 g.1) (w8 g.1) (w78 g.1) (by decide) dslot_51 (lenOf pd16 rfl) rfl rfl rfl (by simp) (Nat.le_of_eq rfl) (by decide) (by decide) (by decide) (by decide) rfl ?_
  rintro v295 _ o295 ⟨rfl, rfl, rfl⟩ K295
  refine wkP.iadd 55 (((31 : Int32) * (((31 : Int32) * (((31 : Int32) * (8 : Int32)) + c1)) + c3)) + c6) dslot_54 rfl rfl ?_
  refine wkP.istoreN 56 #[.val (.ref a), .val (.int (8 : Int32)), .val (.int (((31 : Int32) * (((31 : Int32) * (((31 : Int32) * (8 : Int32)) + c1)) + c3)) + c6)), .val (.int (7 : Int32))] dslot_55 rfl rfl ?_
  refine wkP.bipush 58 (31 : Int32) dslot_56 rfl rfl ?_
  refine wkP.iloadN 59 dslot_58 rfl rfl ?_
  refine wkP.imul 60 ((31 : Int32) * (((31 : Int32) * (((31 : Int32) * (((31 : Int32) * (8 : Int32)) + c1)) + c3)) + c6)) dslot_59 rfl rfl ?_
  refine wkP.aloadN 61 dslot_60 rfl rfl rfl ?_
  refine wkP.iloadN 62 dslot_61 rfl rfl ?_
  refine wkP.callV 65 (M_chAt l Z a0 g _ a b [c0, c1, c2, c3, c4, c5, c6, c7] F 7 c7 rfl (F.ch c7 (by simp))) [(.int (7 : Int32))] [(.int ((31 : Int32) * (((31 : Int32) * (((31 : Int32) * (((31 : Int32) * (8 : Int32)) + c1)) + c3)) + c6)))] 1 g.2.1 F.exa (wkNFs (w77 g.1)) (w74 g.1) (w75 g.1) (w77 g.1) (w76 g.1) (w8 g.1) (w78 g.1) (by decide) dslot_62 (lenOf pd16 rfl) rfl rfl rfl (by simp) (Nat.le_of_eq rfl) (by decide) (by decide) (by decide) (by decide) rfl ?_
  rintro v296 _ o296 ⟨rfl, rfl, rfl⟩ K296
  refine wkP.iadd 66 (((31 : Int32) * (((31 : Int32) * (((31 : Int32) * (((31 : Int32) * (8 : Int32)) + c1)) + c3)) + c6)) + c7) dslot_65 rfl rfl ?_
  refine wkP.istoreN 67 #[.val (.ref a), .val (.int (8 : Int32)), .val (.int (((31 : Int32) * (((31 : Int32) * (((31 : Int32) * (((31 : Int32) * (8 : Int32)) + c1)) + c3)) + c6)) + c7)), .val (.int (7 : Int32))] dslot_66 rfl rfl ?_
  refine wkP.iloadN 68 dslot_67 rfl rfl ?_
  refine wkP.ldcI 70 (w42 g.1) dslot_68 rfl ?_
  refine wkP.imul 71 ((((31 : Int32) * (((31 : Int32) * (((31 : Int32) * (((31 : Int32) * (8 : Int32)) + c1)) + c3)) + c6)) + c7) * (-1640531527 : Int32)) dslot_70 rfl rfl ?_
  refine wkP.bipush 73 (26 : Int32) dslot_71 rfl rfl ?_
  refine wkP.iushr 74 ((((((31 : Int32) * (((31 : Int32) * (((31 : Int32) * (((31 : Int32) * (8 : Int32)) + c1)) + c3)) + c6)) + c7) * (-1640531527 : Int32))).toUInt32 >>> ((26 : Int32) &&& 31).toUInt32).toInt32 dslot_73 rfl rfl ?_
  exact wkP.retI .int [] g.2.1 dslot_74 rfl (by simp) rfl (by decide) (by decide) (by simp) ⟨rfl, rfl, rfl⟩
set_option maxRecDepth 65536 in
set_option maxHeartbeats 4000000 in
theorem M_slot9 (l : Launch) (Z : State) (a0 : Array Value) (g : G Z a0) (h : Heap) (a b : Addr) (c0 c1 c2 c3 c4 c5 c6 c7 c8 c9 : Int32) (F : St Z h a b [c0, c1, c2, c3, c4, c5, c6, c7, c8]) : wkM l Z bslot rslot #[.ref a] h [] (fun v h' os => v = some (.int ((((((31 : Int32) * (((31 : Int32) * (((31 : Int32) * (((31 : Int32) * (9 : Int32)) + c2)) + c4)) + c6)) + c8) * (-1640531527 : Int32))).toUInt32 >>> ((26 : Int32) &&& 31).toUInt32).toInt32) ∧ os = [] ∧ h = h') := by
  refine wkM.of #[.val (.ref a), .unset, .unset, .unset] (plainFor_of_name (by first | (simp [plainName, overriddenIn]; done) | decide +kernel)) (fun m => by first | rfl | (simp [entryFrame, mkF, argsToLocals, Value.category]; done)) ?_
  refine wkP.aloadN 1 dslot_0 rfl rfl rfl ?_
  refine wkP.callV 4 (M_len l Z a0 g _ a b [c0, c1, c2, c3, c4, c5, c6, c7, c8] F) [] [] 0 g.2.1 F.exa (wkNFs (w34 g.1)) (w31 g.1) (w32 g.1) (w34 g.1) (w33 g.1) (w8 g.1) (w35 g.1) (by decide) dslot_1 (lenOf pd15 rfl) rfl rfl rfl (by simp) (Nat.le_of_eq rfl) (by decide) (by decide) (by decide) (by decide) rfl ?_
  rintro v297 _ o297 ⟨rfl, rfl, rfl⟩ K297
  refine wkP.istoreN 5 #[.val (.ref a), .val (.int (9 : Int32)), .unset, .unset] dslot_4 rfl rfl ?_
  refine wkP.iloadN 6 dslot_5 rfl rfl ?_
  refine wkP.istoreN 7 #[.val (.ref a), .val (.int (9 : Int32)), .val (.int (9 : Int32)), .unset] dslot_6 rfl rfl ?_
  refine wkP.iloadN 8 dslot_7 rfl rfl ?_
  refine wkP.ifF 11 dslot_8 (show ¬ (¬ (0 : Int32) < (9 : Int32)) from (by decide)) rfl ?_
  refine wkP.iloadN 12 dslot_11 rfl rfl ?_
  refine wkP.iconst 13 (1 : Int32) dslot_12 rfl rfl ?_
  refine wkP.isub 14 (8 : Int32) dslot_13 (by decide) rfl ?_
  refine wkP.istoreN 15 #[.val (.ref a), .val (.int (9 : Int32)), .val (.int (9 : Int32)), .val (.int (8 : Int32))] dslot_14 rfl rfl ?_
  refine wkP.bipush 17 (31 : Int32) dslot_15 rfl rfl ?_
  refine wkP.iloadN 18 dslot_17 rfl rfl ?_
  refine wkP.imul 19 ((31 : Int32) * (9 : Int32)) dslot_18 rfl rfl ?_
  refine wkP.aloadN 20 dslot_19 rfl rfl rfl ?_
  refine wkP.iloadN 21 dslot_20 rfl rfl ?_
  refine wkP.iconst 22 (2 : Int32) dslot_21 rfl rfl ?_
  refine wkP.ishr 23 (2 : Int32) dslot_22 (by decide) rfl ?_
  refine wkP.callV 26 (M_chAt l Z a0 g _ a b [c0, c1, c2, c3, c4, c5, c6, c7, c8] F 2 c2 rfl (F.ch c2 (by simp))) [(.int (2 : Int32))] [(.int ((31 : Int32) * (9 : Int32)))] 1 g.2.1 F.exa (wkNFs (w77 g.1)) (w74 g.1) (w75 g.1) (w77 g.1) (w76 g.1) (w8 g.1) (w78 g.1) (by decide) dslot_23 (lenOf pd16 rfl) rfl rfl rfl (by simp) (Nat.le_of_eq rfl) (by decide) (by decide) (by decide) (by decide) rfl ?_
  rintro v298 _ o298 ⟨rfl, rfl, rfl⟩ K298
  refine wkP.iadd 27 (((31 : Int32) * (9 : Int32)) + c2) dslot_26 rfl rfl ?_
  refine wkP.istoreN 28 #[.val (.ref a), .val (.int (9 : Int32)), .val (.int (((31 : Int32) * (9 : Int32)) + c2)), .val (.int (8 : Int32))] dslot_27 rfl rfl ?_
  refine wkP.bipush 30 (31 : Int32) dslot_28 rfl rfl ?_
  refine wkP.iloadN 31 dslot_30 rfl rfl ?_
  refine wkP.imul 32 ((31 : Int32) * (((31 : Int32) * (9 : Int32)) + c2)) dslot_31 rfl rfl ?_
  refine wkP.aloadN 33 dslot_32 rfl rfl rfl ?_
  refine wkP.iloadN 34 dslot_33 rfl rfl ?_
  refine wkP.iconst 35 (1 : Int32) dslot_34 rfl rfl ?_
  refine wkP.ishr 36 (4 : Int32) dslot_35 (by decide) rfl ?_
  refine wkP.callV 39 (M_chAt l Z a0 g _ a b [c0, c1, c2, c3, c4, c5, c6, c7, c8] F 4 c4 rfl (F.ch c4 (by simp))) [(.int (4 : Int32))] [(.int ((31 : Int32) * (((31 : Int32) * (9 : Int32)) + c2)))] 1 g.2.1 F.exa (wkNFs (w77 g.1)) (w74 g.1) (w75 g.1) (w77 g.1) (w76 g.1) (w8 g.1) (w78 g.1) (by decide) dslot_36 (lenOf pd16 rfl) rfl rfl rfl (by simp) (Nat.le_of_eq rfl) (by decide) (by decide) (by decide) (by decide) rfl ?_
  rintro v299 _ o299 ⟨rfl, rfl, rfl⟩ K299
  refine wkP.iadd 40 (((31 : Int32) * (((31 : Int32) * (9 : Int32)) + c2)) + c4) dslot_39 rfl rfl ?_
  refine wkP.istoreN 41 #[.val (.ref a), .val (.int (9 : Int32)), .val (.int (((31 : Int32) * (((31 : Int32) * (9 : Int32)) + c2)) + c4)), .val (.int (8 : Int32))] dslot_40 rfl rfl ?_
  refine wkP.bipush 43 (31 : Int32) dslot_41 rfl rfl ?_
  refine wkP.iloadN 44 dslot_43 rfl rfl ?_
  refine wkP.imul 45 ((31 : Int32) * (((31 : Int32) * (((31 : Int32) * (9 : Int32)) + c2)) + c4)) dslot_44 rfl rfl ?_
  refine wkP.aloadN 46 dslot_45 rfl rfl rfl ?_
  refine wkP.iloadN 47 dslot_46 rfl rfl ?_
  refine wkP.iloadN 48 dslot_47 rfl rfl ?_
  refine wkP.iconst 49 (2 : Int32) dslot_48 rfl rfl ?_
  refine wkP.ishr 50 (2 : Int32) dslot_49 (by decide) rfl ?_
  refine wkP.isub 51 (6 : Int32) dslot_50 (by decide) rfl ?_
  refine wkP.callV 54 (M_chAt l Z a0 g _ a b [c0, c1, c2, c3, c4, c5, c6, c7, c8] F 6 c6 rfl (F.ch c6 (by simp))) [(.int (6 : Int32))] [(.int ((31 : Int32) * (((31 : Int32) * (((31 : Int32) * (9 : Int32)) + c2)) + c4)))] 1 g.2.1 F.exa (wkNFs (w77 g.1)) (w74 g.1) (w75 g.1) (w77 g.1) (w76 g.1) (w8 g.1) (w78 g.1) (by decide) dslot_51 (lenOf pd16 rfl) rfl rfl rfl (by simp) (Nat.le_of_eq rfl) (by decide) (by decide) (by decide) (by decide) rfl ?_
  rintro v300 _ o300 ⟨rfl, rfl, rfl⟩ K300
  refine wkP.iadd 55 (((31 : Int32) * (((31 : Int32) * (((31 : Int32) * (9 : Int32)) + c2)) + c4)) + c6) dslot_54 rfl rfl ?_
  refine wkP.istoreN 56 #[.val (.ref a), .val (.int (9 : Int32)), .val (.int (((31 : Int32) * (((31 : Int32) * (((31 : Int32) * (9 : Int32)) + c2)) + c4)) + c6)), .val (.int (8 : Int32))] dslot_55 rfl rfl ?_
  refine wkP.bipush 58 (31 : Int32) dslot_56 rfl rfl ?_
  refine wkP.iloadN 59 dslot_58 rfl rfl ?_
  refine wkP.imul 60 ((31 : Int32) * (((31 : Int32) * (((31 : Int32) * (((31 : Int32) * (9 : Int32)) + c2)) + c4)) + c6)) dslot_59 rfl rfl ?_
  refine wkP.aloadN 61 dslot_60 rfl rfl rfl ?_
  refine wkP.iloadN 62 dslot_61 rfl rfl ?_
  refine wkP.callV 65 (M_chAt l Z a0 g _ a b [c0, c1, c2, c3, c4, c5, c6, c7, c8] F 8 c8 rfl (F.ch c8 (by simp))) [(.int (8 : Int32))] [(.int ((31 : Int32) * (((31 : Int32) * (((31 : Int32) * (((31 : Int32) * (9 : Int32)) + c2)) + c4)) + c6)))] 1 g.2.1 F.exa (wkNFs (w77 g.1)) (w74 g.1) (w75 g.1) (w77 g.1) (w76 g.1) (w8 g.1) (w78 g.1) (by decide) dslot_62 (lenOf pd16 rfl) rfl rfl rfl (by simp) (Nat.le_of_eq rfl) (by decide) (by decide) (by decide) (by decide) rfl ?_
  rintro v301 _ o301 ⟨rfl, rfl, rfl⟩ K301
  refine wkP.iadd 66 (((31 : Int32) * (((31 : Int32) * (((31 : Int32) * (((31 : Int32) * (9 : Int32)) + c2)) + c4)) + c6)) + c8) dslot_65 rfl rfl ?_
  refine wkP.istoreN 67 #[.val (.ref a), .val (.int (9 : Int32)), .val (.int (((31 : Int32) * (((31 : Int32) * (((31 : Int32) * (((31 : Int32) * (9 : Int32)) + c2)) + c4)) + c6)) + c8)), .val (.int (8 : Int32))] dslot_66 rfl rfl ?_
  refine wkP.iloadN 68 dslot_67 rfl rfl ?_
  refine wkP.ldcI 70 (w42 g.1) dslot_68 rfl ?_
  refine wkP.imul 71 ((((31 : Int32) * (((31 : Int32) * (((31 : Int32) * (((31 : Int32) * (9 : Int32)) + c2)) + c4)) + c6)) + c8) * (-1640531527 : Int32)) dslot_70 rfl rfl ?_
  refine wkP.bipush 73 (26 : Int32) dslot_71 rfl rfl ?_
  refine wkP.iushr 74 ((((((31 : Int32) * (((31 : Int32) * (((31 : Int32) * (((31 : Int32) * (9 : Int32)) + c2)) + c4)) + c6)) + c8) * (-1640531527 : Int32))).toUInt32 >>> ((26 : Int32) &&& 31).toUInt32).toInt32 dslot_73 rfl rfl ?_
  exact wkP.retI .int [] g.2.1 dslot_74 rfl (by simp) rfl (by decide) (by decide) (by simp) ⟨rfl, rfl, rfl⟩
set_option maxRecDepth 65536 in
set_option maxHeartbeats 4000000 in
theorem M_slot10 (l : Launch) (Z : State) (a0 : Array Value) (g : G Z a0) (h : Heap) (a b : Addr) (c0 c1 c2 c3 c4 c5 c6 c7 c8 c9 : Int32) (F : St Z h a b [c0, c1, c2, c3, c4, c5, c6, c7, c8, c9]) : wkM l Z bslot rslot #[.ref a] h [] (fun v h' os => v = some (.int ((((((31 : Int32) * (((31 : Int32) * (((31 : Int32) * (((31 : Int32) * (10 : Int32)) + c2)) + c4)) + c7)) + c9) * (-1640531527 : Int32))).toUInt32 >>> ((26 : Int32) &&& 31).toUInt32).toInt32) ∧ os = [] ∧ h = h') := by
  refine wkM.of #[.val (.ref a), .unset, .unset, .unset] (plainFor_of_name (by first | (simp [plainName, overriddenIn]; done) | decide +kernel)) (fun m => by first | rfl | (simp [entryFrame, mkF, argsToLocals, Value.category]; done)) ?_
  refine wkP.aloadN 1 dslot_0 rfl rfl rfl ?_
  refine wkP.callV 4 (M_len l Z a0 g _ a b [c0, c1, c2, c3, c4, c5, c6, c7, c8, c9] F) [] [] 0 g.2.1 F.exa (wkNFs (w34 g.1)) (w31 g.1) (w32 g.1) (w34 g.1) (w33 g.1) (w8 g.1) (w35 g.1) (by decide) dslot_1 (lenOf pd15 rfl) rfl rfl rfl (by simp) (Nat.le_of_eq rfl) (by decide) (by decide) (by decide) (by decide) rfl ?_
  rintro v302 _ o302 ⟨rfl, rfl, rfl⟩ K302
  refine wkP.istoreN 5 #[.val (.ref a), .val (.int (10 : Int32)), .unset, .unset] dslot_4 rfl rfl ?_
  refine wkP.iloadN 6 dslot_5 rfl rfl ?_
  refine wkP.istoreN 7 #[.val (.ref a), .val (.int (10 : Int32)), .val (.int (10 : Int32)), .unset] dslot_6 rfl rfl ?_
  refine wkP.iloadN 8 dslot_7 rfl rfl ?_
  refine wkP.ifF 11 dslot_8 (show ¬ (¬ (0 : Int32) < (10 : Int32)) from (by decide)) rfl ?_
  refine wkP.iloadN 12 dslot_11 rfl rfl ?_
  refine wkP.iconst 13 (1 : Int32) dslot_12 rfl rfl ?_
  refine wkP.isub 14 (9 : Int32) dslot_13 (by decide) rfl ?_
  refine wkP.istoreN 15 #[.val (.ref a), .val (.int (10 : Int32)), .val (.int (10 : Int32)), .val (.int (9 : Int32))] dslot_14 rfl rfl ?_
  refine wkP.bipush 17 (31 : Int32) dslot_15 rfl rfl ?_
  refine wkP.iloadN 18 dslot_17 rfl rfl ?_
  refine wkP.imul 19 ((31 : Int32) * (10 : Int32)) dslot_18 rfl rfl ?_
  refine wkP.aloadN 20 dslot_19 rfl rfl rfl ?_
  refine wkP.iloadN 21 dslot_20 rfl rfl ?_
  refine wkP.iconst 22 (2 : Int32) dslot_21 rfl rfl ?_
  refine wkP.ishr 23 (2 : Int32) dslot_22 (by decide) rfl ?_
  refine wkP.callV 26 (M_chAt l Z a0 g _ a b [c0, c1, c2, c3, c4, c5, c6, c7, c8, c9] F 2 c2 rfl (F.ch c2 (by simp))) [(.int (2 : Int32))] [(.int ((31 : Int32) * (10 : Int32)))] 1 g.2.1 F.exa (wkNFs (w77 g.1)) (w74 g.1) (w75 g.1) (w77 g.1) (w76 g.1) (w8 g.1) (w78 g.1) (by decide) dslot_23 (lenOf pd16 rfl) rfl rfl rfl (by simp) (Nat.le_of_eq rfl) (by decide) (by decide) (by decide) (by decide) rfl ?_
  rintro v303 _ o303 ⟨rfl, rfl, rfl⟩ K303
  refine wkP.iadd 27 (((31 : Int32) * (10 : Int32)) + c2) dslot_26 rfl rfl ?_
  refine wkP.istoreN 28 #[.val (.ref a), .val (.int (10 : Int32)), .val (.int (((31 : Int32) * (10 : Int32)) + c2)), .val (.int (9 : Int32))] dslot_27 rfl rfl ?_
  refine wkP.bipush 30 (31 : Int32) dslot_28 rfl rfl ?_
  refine wkP.iloadN 31 dslot_30 rfl rfl ?_
  refine wkP.imul 32 ((31 : Int32) * (((31 : Int32) * (10 : Int32)) + c2)) dslot_31 rfl rfl ?_
  refine wkP.aloadN 33 dslot_32 rfl rfl rfl ?_
  refine wkP.iloadN 34 dslot_33 rfl rfl ?_
  refine wkP.iconst 35 (1 : Int32) dslot_34 rfl rfl ?_
  refine wkP.ishr 36 (4 : Int32) dslot_35 (by decide) rfl ?_
  refine wkP.callV 39 (M_chAt l Z a0 g _ a b [c0, c1, c2, c3, c4, c5, c6, c7, c8, c9] F 4 c4 rfl (F.ch c4 (by simp))) [(.int (4 : Int32))] [(.int ((31 : Int32) * (((31 : Int32) * (10 : Int32)) + c2)))] 1 g.2.1 F.exa (wkNFs (w77 g.1)) (w74 g.1) (w75 g.1) (w77 g.1) (w76 g.1) (w8 g.1) (w78 g.1) (by decide) dslot_36 (lenOf pd16 rfl) rfl rfl rfl (by simp) (Nat.le_of_eq rfl) (by decide) (by decide) (by decide) (by decide) rfl ?_
  rintro v304 _ o304 ⟨rfl, rfl, rfl⟩ K304
  refine wkP.iadd 40 (((31 : Int32) * (((31 : Int32) * (10 : Int32)) + c2)) + c4) dslot_39 rfl rfl ?_
  refine wkP.istoreN 41 #[.val (.ref a), .val (.int (10 : Int32)), .val (.int (((31 : Int32) * (((31 : Int32) * (10 : Int32)) + c2)) + c4)), .val (.int (9 : Int32))] dslot_40 rfl rfl ?_
  refine wkP.bipush 43 (31 : Int32) dslot_41 rfl rfl ?_
  refine wkP.iloadN 44 dslot_43 rfl rfl ?_
  refine wkP.imul 45 ((31 : Int32) * (((31 : Int32) * (((31 : Int32) * (10 : Int32)) + c2)) + c4)) dslot_44 rfl rfl ?_
  refine wkP.aloadN 46 dslot_45 rfl rfl rfl ?_
  refine wkP.iloadN 47 dslot_46 rfl rfl ?_
  refine wkP.iloadN 48 dslot_47 rfl rfl ?_
  refine wkP.iconst 49 (2 : Int32) dslot_48 rfl rfl ?_
  refine wkP.ishr 50 (2 : Int32) dslot_49 (by decide) rfl ?_
  refine wkP.isub 51 (7 : Int32) dslot_50 (by decide) rfl ?_
  refine wkP.callV 54 (M_chAt l Z a0 g _ a b [c0, c1, c2, c3, c4, c5, c6, c7, c8, c9] F 7 c7 rfl (F.ch c7 (by simp))) [(.int (7 : Int32))] [(.int ((31 : Int32) * (((31 : Int32) * (((31 : Int32) * (10 : Int32)) + c2)) + c4)))] 1 g.2.1 F.exa (wkNFs (w77 g.1)) (w74 g.1) (w75 g.1) (w77 g.1) (w76 g.1) (w8 g.1) (w78 g.1) (by decide) dslot_51 (lenOf pd16 rfl) rfl rfl rfl (by simp) (Nat.le_of_eq rfl) (by decide) (by decide) (by decide) (by decide) rfl ?_
  rintro v305 _ o305 ⟨rfl, rfl, rfl⟩ K305
  refine wkP.iadd 55 (((31 : Int32) * (((31 : Int32) * (((31 : Int32) * (10 : Int32)) + c2)) + c4)) + c7) dslot_54 rfl rfl ?_
  refine wkP.istoreN 56 #[.val (.ref a), .val (.int (10 : Int32)), .val (.int (((31 : Int32) * (((31 : Int32) * (((31 : Int32) * (10 : Int32)) + c2)) + c4)) + c7)), .val (.int (9 : Int32))] dslot_55 rfl rfl ?_
  refine wkP.bipush 58 (31 : Int32) dslot_56 rfl rfl ?_
  refine wkP.iloadN 59 dslot_58 rfl rfl ?_
  refine wkP.imul 60 ((31 : Int32) * (((31 : Int32) * (((31 : Int32) * (((31 : Int32) * (10 : Int32)) + c2)) + c4)) + c7)) dslot_59 rfl rfl ?_
  refine wkP.aloadN 61 dslot_60 rfl rfl rfl ?_
  refine wkP.iloadN 62 dslot_61 rfl rfl ?_
  refine wkP.callV 65 (M_chAt l Z a0 g _ a b [c0, c1, c2, c3, c4, c5, c6, c7, c8, c9] F 9 c9 rfl (F.ch c9 (by simp))) [(.int (9 : Int32))] [(.int ((31 : Int32) * (((31 : Int32) * (((31 : Int32) * (((31 : Int32) * (10 : Int32)) + c2)) + c4)) + c7)))] 1 g.2.1 F.exa (wkNFs (w77 g.1)) (w74 g.1) (w75 g.1) (w77 g.1) (w76 g.1) (w8 g.1) (w78 g.1) (by decide) dslot_62 (lenOf pd16 rfl) rfl rfl rfl (by simp) (Nat.le_of_eq rfl) (by decide) (by decide) (by decide) (by decide) rfl ?_
  rintro v306 _ o306 ⟨rfl, rfl, rfl⟩ K306
  refine wkP.iadd 66 (((31 : Int32) * (((31 : Int32) * (((31 : Int32) * (((31 : Int32) * (10 : Int32)) + c2)) + c4)) + c7)) + c9) dslot_65 rfl rfl ?_
  refine wkP.istoreN 67 #[.val (.ref a), .val (.int (10 : Int32)), .val (.int (((31 : Int32) * (((31 : Int32) * (((31 : Int32) * (((31 : Int32) * (10 : Int32)) + c2)) + c4)) + c7)) + c9)), .val (.int (9 : Int32))] dslot_66 rfl rfl ?_
  refine wkP.iloadN 68 dslot_67 rfl rfl ?_
  refine wkP.ldcI 70 (w42 g.1) dslot_68 rfl ?_
  refine wkP.imul 71 ((((31 : Int32) * (((31 : Int32) * (((31 : Int32) * (((31 : Int32) * (10 : Int32)) + c2)) + c4)) + c7)) + c9) * (-1640531527 : Int32)) dslot_70 rfl rfl ?_
  refine wkP.bipush 73 (26 : Int32) dslot_71 rfl rfl ?_
  refine wkP.iushr 74 ((((((31 : Int32) * (((31 : Int32) * (((31 : Int32) * (((31 : Int32) * (10 : Int32)) + c2)) + c4)) + c7)) + c9) * (-1640531527 : Int32))).toUInt32 >>> ((26 : Int32) &&& 31).toUInt32).toInt32 dslot_73 rfl rfl ?_
  exact wkP.retI .int [] g.2.1 dslot_74 rfl (by simp) rfl (by decide) (by decide) (by simp) ⟨rfl, rfl, rfl⟩
theorem rem11 (x : Int32) : ∃ z : Int32, (x &&& 2147483647) % 11 = z ∧ 0 ≤ z.toInt ∧ z.toInt < 11 := by
  refine ⟨_, rfl, ?_⟩
  have h := c_mask x 2147483647 31 (by decide) (by decide)
  have h2 := c_irem (x &&& 2147483647) 11 11 (by decide)
  omega
theorem i2c_rng (x : Int32) : ¬ x.toUInt32.toUInt16.toUInt32.toInt32 < 0 ∧ ¬ 65535 < x.toUInt32.toUInt16.toUInt32.toInt32 := by
  have h := c_i2c x
  simp only [Int32.lt_iff_toInt_lt, Int32.reduceToInt]
  omega
theorem ring5 (n a b c d : Int32) : n * 923521 + a * 29791 + b * 961 + c * 31 + d = 31 * (31 * (31 * (31 * n + a) + b) + c) + d := by
  grind
theorem i2c_is (x : Int32) : ∃ z, x.toUInt32.toUInt16.toUInt32.toInt32 = z ∧ ¬ z < 0 ∧ ¬ 65535 < z := ⟨_, rfl, i2c_rng x⟩
theorem lowL (X p q : Int) (h2 : (p - X * -1640531527) % 4294967296 = 0) (h3 : (q - X * 2654435769) % 18446744073709551616 = 0) : p % 4294967296 = q % 4294967296 := by
  obtain ⟨u, hu⟩ := Int.dvd_of_emod_eq_zero h2
  obtain ⟨v, hv⟩ := Int.dvd_of_emod_eq_zero h3
  have e : p - q = 4294967296 * (u - 4294967296 * v - X) := by clear h2 h3; omega
  exact Int.emod_eq_emod_iff_emod_sub_eq_zero.mpr (Int.emod_eq_zero_of_dvd ⟨_, e⟩)
theorem lowT (A s u i : Int) (h4 : s = A % 4294967296) (h5 : u = s % 18446744073709551616 / 67108864) (h6 : (i - u) % 4294967296 = 0) (h7 : -2147483648 ≤ i ∧ i < 2147483648) : i = A % 4294967296 / 67108864 := by
  have a1 : 0 ≤ s := by rw [h4]; exact Int.emod_nonneg _ (by decide)
  have a2 : s < 4294967296 := by rw [h4]; exact Int.emod_lt_of_pos _ (by decide)
  rw [Int.emod_eq_of_lt a1 (Int.lt_trans a2 (by decide))] at h5
  rw [← h4, ← h5]
  have b1 : 0 ≤ u := by rw [h5]; exact Int.ediv_nonneg a1 (by decide)
  have b2 : u < 64 := by rw [h5]; exact Int.ediv_lt_of_lt_mul (by decide) a2
  clear h4 h5
  obtain ⟨v, hv⟩ := Int.dvd_of_emod_eq_zero h6
  clear h6
  omega
/-- the top six bits of the product's low word, by the int and by the long road -/
theorem top6 (x : Int32) : ∃ z : Int32, ((x * (-1640531527)).toUInt32 >>> ((26 : Int32) &&& 31).toUInt32).toInt32 = z ∧ (((x.toInt64 * 2654435769 &&& 4294967295).toUInt64 >>> ((26 : Int32) &&& 0x3f).toInt64.toUInt64).toInt64).toInt32 = z ∧ ¬ z < 0 ∧ z < 64 := by
  have h1 := c_iushr (x * (-1640531527)) 26 26 (by decide) (by decide)
  have h2 := c_imul x (-1640531527)
  have h3 := c_lmul x.toInt64 2654435769
  have h4 := c_maskL (x.toInt64 * 2654435769) 4294967295 32 (by decide) (by decide)
  have h5 := c_lushr (x.toInt64 * 2654435769 &&& 4294967295) 26 26 (by decide) (by decide)
  have h6 := c_l2i (((x.toInt64 * 2654435769 &&& 4294967295).toUInt64 >>> ((26 : Int32) &&& 0x3f).toInt64.toUInt64).toInt64)
  have h7 := rng32 ((((x.toInt64 * 2654435769 &&& 4294967295).toUInt64 >>> ((26 : Int32) &&& 0x3f).toInt64.toUInt64).toInt64).toInt32)
  rw [c_i2l] at h3
  simp only [Int32.reduceToInt, Int64.reduceToInt] at h2 h3
  have e := lowL _ _ _ h2 h3
  have f := lowT _ _ _ _ h4 h5 h6 h7
  rw [e] at h1
  have b1 : 0 ≤ (x.toInt64 * 2654435769).toInt % 4294967296 := Int.emod_nonneg _ (by decide)
  have b2 : (x.toInt64 * 2654435769).toInt % 4294967296 < 4294967296 := Int.emod_lt_of_pos _ (by decide)
  generalize (x.toInt64 * 2654435769).toInt % 4294967296 = A at h1 f b1 b2
  refine ⟨_, rfl, ?_, ?_, ?_⟩
  · rw [← Int32.toInt_inj]; exact f.trans h1.symm
  · rw [Int32.lt_iff_toInt_lt, h1]; simp only [Int32.reduceToInt]; clear h1 f h2 h3 h4 h5 h6 h7 e; omega
  · rw [Int32.lt_iff_toInt_lt, h1]; simp only [Int32.reduceToInt]; clear h1 f h2 h3 h4 h5 h6 h7 e; omega
set_option maxRecDepth 65536 in
set_option maxHeartbeats 4000000 in
theorem M_law (l : Launch) (Z : State) (a0 : Array Value) (g : G Z a0) (h : Heap) (i0 : Int32) (i1 i2 : Int64) (i3 : Int32) : wkM l Z blaw room_1 #[.int i0, .long i1, .long i2, .int i3] h [] (fun v h' os => v = some (.int 1)) := by
  refine wkM.of #[.val (.int i0), .val (.long i1), .second, .val (.long i2), .second, .val (.int i3), .unset, .unset, .unset, .unset, .unset, .unset, .unset, .unset] (plainFor_of_name (by first | (simp [plainName, overriddenIn]; done) | decide +kernel)) (fun m => by first | rfl | (simp [entryFrame, mkF, argsToLocals, Value.category]; done)) ?_
  obtain ⟨n, hn, hn0, hn11⟩ := rem11 i0
  refine wkP.iloadN 1 at_0 rfl rfl ?_
  refine wkP.ldcI 3 (w0 g.1) at_1 rfl ?_
  refine wkP.iand 4 (i0 &&& (2147483647 : Int32)) at_3 rfl rfl ?_
  refine wkP.bipush 6 (11 : Int32) at_4 rfl rfl ?_
  refine wkP.irem 7 n at_6 (by decide) hn rfl ?_
  refine wkP.istore 9 #[.val (.int i0), .val (.long i1), .second, .val (.long i2), .second, .val (.int i3), .val (.int n), .unset, .unset, .unset, .unset, .unset, .unset, .unset] at_7 rfl rfl ?_
  refine wkP.bipush 11 (10 : Int32) at_9 rfl rfl ?_
  refine wkP.newP 13 .char 10 10 (w1 g.1) rfl rfl rfl at_11 rfl (by decide) (by decide) (by decide) (by decide) rfl ?_
  intro h307 a307 g307 l307 K307 A307
  have z307 := K307.1
  replace A307 : Ia Z h307 a307 .char [(0 : Int32), (0 : Int32), (0 : Int32), (0 : Int32), (0 : Int32), (0 : Int32), (0 : Int32), (0 : Int32), (0 : Int32), (0 : Int32)] := A307
  refine wkP.astore 15 #[.val (.int i0), .val (.long i1), .second, .val (.long i2), .second, .val (.int i3), .val (.int n), .val (.ref a307), .unset, .unset, .unset, .unset, .unset, .unset] at_13 rfl rfl rfl ?_
  refine wkP.aload 17 at_15 rfl rfl rfl ?_
  refine wkP.iconst 18 (0 : Int32) at_17 rfl rfl ?_
  refine wkP.lloadN 19 at_18 rfl rfl ?_
  refine wkP.l2i 20 (i1).toInt32 at_19 rfl rfl ?_
  obtain ⟨c0, hc0, hk0⟩ := i2c_is ((i1).toInt32)
  refine wkP.i2c 21 c0 at_20 hc0 rfl ?_
  refine wkP.stC 22 0 c0 A307 at_21 rfl (by simp) (nar_c hk0) (by simp) rfl ?_
  intro h308 K308 A308
  have z308 := K308.1
  replace A308 : Ia Z h308 a307 .char [c0, (0 : Int32), (0 : Int32), (0 : Int32), (0 : Int32), (0 : Int32), (0 : Int32), (0 : Int32), (0 : Int32), (0 : Int32)] := A308
  refine wkP.aload 24 at_22 rfl rfl rfl ?_
  refine wkP.iconst 25 (1 : Int32) at_24 rfl rfl ?_
  refine wkP.lloadN 26 at_25 rfl rfl ?_
  refine wkP.bipush 28 (16 : Int32) at_26 rfl rfl ?_
  refine wkP.lushr 29 ((i1).toUInt64 >>> ((16 : Int32) &&& 0x3f).toInt64.toUInt64).toInt64 at_28 rfl rfl ?_
  refine wkP.l2i 30 (((i1).toUInt64 >>> ((16 : Int32) &&& 0x3f).toInt64.toUInt64).toInt64).toInt32 at_29 rfl rfl ?_
  obtain ⟨c1, hc1, hk1⟩ := i2c_is ((((i1).toUInt64 >>> ((16 : Int32) &&& 0x3f).toInt64.toUInt64).toInt64).toInt32)
  refine wkP.i2c 31 c1 at_30 hc1 rfl ?_
  refine wkP.stC 32 1 c1 A308 at_31 rfl (by simp) (nar_c hk1) (by simp) rfl ?_
  intro h309 K309 A309
  have z309 := K309.1
  replace A309 : Ia Z h309 a307 .char [c0, c1, (0 : Int32), (0 : Int32), (0 : Int32), (0 : Int32), (0 : Int32), (0 : Int32), (0 : Int32), (0 : Int32)] := A309
  refine wkP.aload 34 at_32 rfl rfl rfl ?_
  refine wkP.iconst 35 (2 : Int32) at_34 rfl rfl ?_
  refine wkP.lloadN 36 at_35 rfl rfl ?_
  refine wkP.bipush 38 (32 : Int32) at_36 rfl rfl ?_
  refine wkP.lushr 39 ((i1).toUInt64 >>> ((32 : Int32) &&& 0x3f).toInt64.toUInt64).toInt64 at_38 rfl rfl ?_
  refine wkP.l2i 40 (((i1).toUInt64 >>> ((32 : Int32) &&& 0x3f).toInt64.toUInt64).toInt64).toInt32 at_39 rfl rfl ?_
  obtain ⟨c2, hc2, hk2⟩ := i2c_is ((((i1).toUInt64 >>> ((32 : Int32) &&& 0x3f).toInt64.toUInt64).toInt64).toInt32)
  refine wkP.i2c 41 c2 at_40 hc2 rfl ?_
  refine wkP.stC 42 2 c2 A309 at_41 rfl (by simp) (nar_c hk2) (by simp) rfl ?_
  intro h310 K310 A310
  have z310 := K310.1
  replace A310 : Ia Z h310 a307 .char [c0, c1, c2, (0 : Int32), (0 : Int32), (0 : Int32), (0 : Int32), (0 : Int32), (0 : Int32), (0 : Int32)] := A310
  refine wkP.aload 44 at_42 rfl rfl rfl ?_
  refine wkP.iconst 45 (3 : Int32) at_44 rfl rfl ?_
  refine wkP.lloadN 46 at_45 rfl rfl ?_
  refine wkP.bipush 48 (48 : Int32) at_46 rfl rfl ?_
  refine wkP.lushr 49 ((i1).toUInt64 >>> ((48 : Int32) &&& 0x3f).toInt64.toUInt64).toInt64 at_48 rfl rfl ?_
  refine wkP.l2i 50 (((i1).toUInt64 >>> ((48 : Int32) &&& 0x3f).toInt64.toUInt64).toInt64).toInt32 at_49 rfl rfl ?_
  obtain ⟨c3, hc3, hk3⟩ := i2c_is ((((i1).toUInt64 >>> ((48 : Int32) &&& 0x3f).toInt64.toUInt64).toInt64).toInt32)
  refine wkP.i2c 51 c3 at_50 hc3 rfl ?_
  refine wkP.stC 52 3 c3 A310 at_51 rfl (by simp) (nar_c hk3) (by simp) rfl ?_
  intro h311 K311 A311
  have z311 := K311.1
  replace A311 : Ia Z h311 a307 .char [c0, c1, c2, c3, (0 : Int32), (0 : Int32), (0 : Int32), (0 : Int32), (0 : Int32), (0 : Int32)] := A311
  refine wkP.aload 54 at_52 rfl rfl rfl ?_
  refine wkP.iconst 55 (4 : Int32) at_54 rfl rfl ?_
  refine wkP.lloadN 56 at_55 rfl rfl ?_
  refine wkP.l2i 57 (i2).toInt32 at_56 rfl rfl ?_
  obtain ⟨c4, hc4, hk4⟩ := i2c_is ((i2).toInt32)
  refine wkP.i2c 58 c4 at_57 hc4 rfl ?_
  refine wkP.stC 59 4 c4 A311 at_58 rfl (by simp) (nar_c hk4) (by simp) rfl ?_
  intro h312 K312 A312
  have z312 := K312.1
  replace A312 : Ia Z h312 a307 .char [c0, c1, c2, c3, c4, (0 : Int32), (0 : Int32), (0 : Int32), (0 : Int32), (0 : Int32)] := A312
  refine wkP.aload 61 at_59 rfl rfl rfl ?_
  refine wkP.iconst 62 (5 : Int32) at_61 rfl rfl ?_
  refine wkP.lloadN 63 at_62 rfl rfl ?_
  refine wkP.bipush 65 (16 : Int32) at_63 rfl rfl ?_
  refine wkP.lushr 66 ((i2).toUInt64 >>> ((16 : Int32) &&& 0x3f).toInt64.toUInt64).toInt64 at_65 rfl rfl ?_
  refine wkP.l2i 67 (((i2).toUInt64 >>> ((16 : Int32) &&& 0x3f).toInt64.toUInt64).toInt64).toInt32 at_66 rfl rfl ?_
  obtain ⟨c5, hc5, hk5⟩ := i2c_is ((((i2).toUInt64 >>> ((16 : Int32) &&& 0x3f).toInt64.toUInt64).toInt64).toInt32)
  refine wkP.i2c 68 c5 at_67 hc5 rfl ?_
  refine wkP.stC 69 5 c5 A312 at_68 rfl (by simp) (nar_c hk5) (by simp) rfl ?_
  intro h313 K313 A313
  have z313 := K313.1
  replace A313 : Ia Z h313 a307 .char [c0, c1, c2, c3, c4, c5, (0 : Int32), (0 : Int32), (0 : Int32), (0 : Int32)] := A313
  refine wkP.aload 71 at_69 rfl rfl rfl ?_
  refine wkP.bipush 73 (6 : Int32) at_71 rfl rfl ?_
  refine wkP.lloadN 74 at_73 rfl rfl ?_
  refine wkP.bipush 76 (32 : Int32) at_74 rfl rfl ?_
  refine wkP.lushr 77 ((i2).toUInt64 >>> ((32 : Int32) &&& 0x3f).toInt64.toUInt64).toInt64 at_76 rfl rfl ?_
  refine wkP.l2i 78 (((i2).toUInt64 >>> ((32 : Int32) &&& 0x3f).toInt64.toUInt64).toInt64).toInt32 at_77 rfl rfl ?_
  obtain ⟨c6, hc6, hk6⟩ := i2c_is ((((i2).toUInt64 >>> ((32 : Int32) &&& 0x3f).toInt64.toUInt64).toInt64).toInt32)
  refine wkP.i2c 79 c6 at_78 hc6 rfl ?_
  refine wkP.stC 80 6 c6 A313 at_79 rfl (by simp) (nar_c hk6) (by simp) rfl ?_
  intro h314 K314 A314
  have z314 := K314.1
  replace A314 : Ia Z h314 a307 .char [c0, c1, c2, c3, c4, c5, c6, (0 : Int32), (0 : Int32), (0 : Int32)] := A314
  refine wkP.aload 82 at_80 rfl rfl rfl ?_
  refine wkP.bipush 84 (7 : Int32) at_82 rfl rfl ?_
  refine wkP.lloadN 85 at_84 rfl rfl ?_
  refine wkP.bipush 87 (48 : Int32) at_85 rfl rfl ?_
  refine wkP.lushr 88 ((i2).toUInt64 >>> ((48 : Int32) &&& 0x3f).toInt64.toUInt64).toInt64 at_87 rfl rfl ?_
  refine wkP.l2i 89 (((i2).toUInt64 >>> ((48 : Int32) &&& 0x3f).toInt64.toUInt64).toInt64).toInt32 at_88 rfl rfl ?_
  obtain ⟨c7, hc7, hk7⟩ := i2c_is ((((i2).toUInt64 >>> ((48 : Int32) &&& 0x3f).toInt64.toUInt64).toInt64).toInt32)
  refine wkP.i2c 90 c7 at_89 hc7 rfl ?_
  refine wkP.stC 91 7 c7 A314 at_90 rfl (by simp) (nar_c hk7) (by simp) rfl ?_
  intro h315 K315 A315
  have z315 := K315.1
  replace A315 : Ia Z h315 a307 .char [c0, c1, c2, c3, c4, c5, c6, c7, (0 : Int32), (0 : Int32)] := A315
  refine wkP.aload 93 at_91 rfl rfl rfl ?_
  refine wkP.bipush 95 (8 : Int32) at_93 rfl rfl ?_
  refine wkP.iload 97 at_95 rfl rfl ?_
  obtain ⟨c8, hc8, hk8⟩ := i2c_is (i3)
  refine wkP.i2c 98 c8 at_97 hc8 rfl ?_
  refine wkP.stC 99 8 c8 A315 at_98 rfl (by simp) (nar_c hk8) (by simp) rfl ?_
  intro h316 K316 A316
  have z316 := K316.1
  replace A316 : Ia Z h316 a307 .char [c0, c1, c2, c3, c4, c5, c6, c7, c8, (0 : Int32)] := A316
  refine wkP.aload 101 at_99 rfl rfl rfl ?_
  refine wkP.bipush 103 (9 : Int32) at_101 rfl rfl ?_
  refine wkP.iload 105 at_103 rfl rfl ?_
  refine wkP.bipush 107 (16 : Int32) at_105 rfl rfl ?_
  refine wkP.iushr 108 ((i3).toUInt32 >>> ((16 : Int32) &&& 31).toUInt32).toInt32 at_107 rfl rfl ?_
  obtain ⟨c9, hc9, hk9⟩ := i2c_is (((i3).toUInt32 >>> ((16 : Int32) &&& 31).toUInt32).toInt32)
  refine wkP.i2c 109 c9 at_108 hc9 rfl ?_
  refine wkP.stC 110 9 c9 A316 at_109 rfl (by simp) (nar_c hk9) (by simp) rfl ?_
  intro h317 K317 A317
  have z317 := K317.1
  replace A317 : Ia Z h317 a307 .char [c0, c1, c2, c3, c4, c5, c6, c7, c8, c9] := A317
  have hk : chs [c0, c1, c2, c3, c4, c5, c6, c7, c8, c9] := by
    intro c hc
    simp only [List.mem_cons, List.not_mem_nil, or_false] at hc
    rcases hc with rfl | rfl | rfl | rfl | rfl | rfl | rfl | rfl | rfl | rfl
    · exact hk0
    · exact hk1
    · exact hk2
    · exact hk3
    · exact hk4
    · exact hk5
    · exact hk6
    · exact hk7
    · exact hk8
    · exact hk9
  refine wkP.aload 112 at_110 rfl rfl rfl ?_
  refine wkP.iload 114 at_112 rfl rfl ?_
  skip
  by_cases hn_0 : n = 0
  · subst hn_0
    refine wkP.callS 117 (M_text0 l Z a0 g _ a307 c0 c1 c2 c3 c4 c5 c6 c7 c8 c9 A317 hk) [(.ref a307), (.int (0 : Int32))] [] 0 g.2.1 (w2 g.1) (w3 g.1) (w4 g.1) (w5 g.1) (by decide) at_114 (lenOf pd17 rfl) rfl rfl rfl (by simp) (Nat.le_of_eq rfl) (by decide) (by decide) (by decide) (by decide) rfl ?_
    rintro v318 h318 o318 ⟨s, t, rfl, rfl, H⟩ K318
    have z318 := K318.1
    refine wkP.astore 119 #[.val (.int i0), .val (.long i1), .second, .val (.long i2), .second, .val (.int i3), .val (.int (0 : Int32)), .val (.ref a307), .val (.ref s), .unset, .unset, .unset, .unset, .unset] at_117 rfl rfl rfl ?_
    refine wkP.aload 121 at_119 rfl rfl rfl ?_
    obtain ⟨z, hz1, hz2, hz3, hz4⟩ := top6 (0 : Int32)
    refine wkP.callS 124 (M_slot0 l Z a0 g _ s t c0 c1 c2 c3 c4 c5 c6 c7 c8 c9 H) [(.ref s)] [] 0 g.2.1 (w27 g.1) (w28 g.1) (w29 g.1) (w30 g.1) (by decide) at_121 (lenOf pd18 rfl) rfl rfl rfl (by simp) (Nat.le_of_eq rfl) (by decide) (by decide) (by decide) (by decide) rfl ?_
    rintro v319 _ o319 ⟨rfl, rfl, rfl⟩ K319
    rw [hz1]
    refine wkP.istore 126 #[.val (.int i0), .val (.long i1), .second, .val (.long i2), .second, .val (.int i3), .val (.int (0 : Int32)), .val (.ref a307), .val (.ref s), .val (.int z), .unset, .unset, .unset, .unset] at_124 rfl rfl ?_
    refine wkP.iload 128 at_126 rfl rfl ?_
    refine wkP.istore 130 #[.val (.int i0), .val (.long i1), .second, .val (.long i2), .second, .val (.int i3), .val (.int (0 : Int32)), .val (.ref a307), .val (.ref s), .val (.int z), .val (.int (0 : Int32)), .unset, .unset, .unset] at_128 rfl rfl ?_
    refine wkP.iload 132 at_130 rfl rfl ?_
    refine wkP.ifT 192 at_132 (show ¬ (0 : Int32) < (0 : Int32) from (by decide)) (by decide) (by decide) ?_
    refine wkP.iload 194 at_192 rfl rfl ?_
    refine wkP.i2l 195 ((0 : Int32)).toInt64 at_194 rfl rfl ?_
    refine wkP.ldcL 198 (w43 g.1) at_195 rfl ?_
    refine wkP.lmul 199 (((0 : Int32)).toInt64 * (2654435769 : Int64)) at_198 rfl rfl ?_
    refine wkP.ldcL 202 (w44 g.1) at_199 rfl ?_
    refine wkP.land 203 ((((0 : Int32)).toInt64 * (2654435769 : Int64)) &&& (4294967295 : Int64)) at_202 rfl rfl ?_
    refine wkP.lstore 205 #[.val (.int i0), .val (.long i1), .second, .val (.long i2), .second, .val (.int i3), .val (.int (0 : Int32)), .val (.ref a307), .val (.ref s), .val (.int z), .val (.int (0 : Int32)), .val (.long ((((0 : Int32)).toInt64 * (2654435769 : Int64)) &&& (4294967295 : Int64))), .second, .unset] at_203 rfl rfl ?_
    refine wkP.lload 207 at_205 rfl rfl ?_
    refine wkP.bipush 209 (26 : Int32) at_207 rfl rfl ?_
    refine wkP.lushr 210 ((((((0 : Int32)).toInt64 * (2654435769 : Int64)) &&& (4294967295 : Int64))).toUInt64 >>> ((26 : Int32) &&& 0x3f).toInt64.toUInt64).toInt64 at_209 rfl rfl ?_
    refine wkP.l2i 211 z at_210 hz2 rfl ?_
    refine wkP.istore 213 #[.val (.int i0), .val (.long i1), .second, .val (.long i2), .second, .val (.int i3), .val (.int (0 : Int32)), .val (.ref a307), .val (.ref s), .val (.int z), .val (.int (0 : Int32)), .val (.long ((((0 : Int32)).toInt64 * (2654435769 : Int64)) &&& (4294967295 : Int64))), .second, .val (.int z)] at_211 rfl rfl ?_
    refine wkP.iload 215 at_213 rfl rfl ?_
    refine wkP.iload 217 at_215 rfl rfl ?_
    refine wkP.icmpF 220 at_217 (show ¬ (¬ z = z) from (fun q => q rfl)) rfl ?_
    refine wkP.iload 222 at_220 rfl rfl ?_
    refine wkP.ifF 225 at_222 (show ¬ (z < (0 : Int32)) from hz3) rfl ?_
    refine wkP.iload 227 at_225 rfl rfl ?_
    refine wkP.bipush 229 (64 : Int32) at_227 rfl rfl ?_
    refine wkP.icmpF 232 at_229 (show ¬ (¬ z < (64 : Int32)) from (fun q => q hz4)) rfl ?_
    refine wkP.iconst 233 (1 : Int32) at_232 rfl rfl ?_
    refine wkP.goto 237 at_233 (by decide) (by decide) ?_
    exact wkP.retI .boolean [] g.2.1 at_237 rfl (by simp) rfl (by decide) (by decide) (by simp) rfl
  · skip
    by_cases hn_1 : n = 1
    · subst hn_1
      refine wkP.callS 117 (M_text1 l Z a0 g _ a307 c0 c1 c2 c3 c4 c5 c6 c7 c8 c9 A317 hk) [(.ref a307), (.int (1 : Int32))] [] 0 g.2.1 (w2 g.1) (w3 g.1) (w4 g.1) (w5 g.1) (by decide) at_114 (lenOf pd17 rfl) rfl rfl rfl (by simp) (Nat.le_of_eq rfl) (by decide) (by decide) (by decide) (by decide) rfl ?_
      rintro v320 h320 o320 ⟨s, t, rfl, rfl, H⟩ K320
      have z320 := K320.1
      refine wkP.astore 119 #[.val (.int i0), .val (.long i1), .second, .val (.long i2), .second, .val (.int i3), .val (.int (1 : Int32)), .val (.ref a307), .val (.ref s), .unset, .unset, .unset, .unset, .unset] at_117 rfl rfl rfl ?_
      refine wkP.aload 121 at_119 rfl rfl rfl ?_
      obtain ⟨z, hz1, hz2, hz3, hz4⟩ := top6 (((31 : Int32) * (((31 : Int32) * (((31 : Int32) * (((31 : Int32) * (1 : Int32)) + c0)) + c0)) + c0)) + c0)
      refine wkP.callS 124 (M_slot1 l Z a0 g _ s t c0 c1 c2 c3 c4 c5 c6 c7 c8 c9 H) [(.ref s)] [] 0 g.2.1 (w27 g.1) (w28 g.1) (w29 g.1) (w30 g.1) (by decide) at_121 (lenOf pd18 rfl) rfl rfl rfl (by simp) (Nat.le_of_eq rfl) (by decide) (by decide) (by decide) (by decide) rfl ?_
      rintro v321 _ o321 ⟨rfl, rfl, rfl⟩ K321
      rw [hz1]
      refine wkP.istore 126 #[.val (.int i0), .val (.long i1), .second, .val (.long i2), .second, .val (.int i3), .val (.int (1 : Int32)), .val (.ref a307), .val (.ref s), .val (.int z), .unset, .unset, .unset, .unset] at_124 rfl rfl ?_
      refine wkP.iload 128 at_126 rfl rfl ?_
      refine wkP.istore 130 #[.val (.int i0), .val (.long i1), .second, .val (.long i2), .second, .val (.int i3), .val (.int (1 : Int32)), .val (.ref a307), .val (.ref s), .val (.int z), .val (.int (1 : Int32)), .unset, .unset, .unset] at_128 rfl rfl ?_
      refine wkP.iload 132 at_130 rfl rfl ?_
      refine wkP.ifF 135 at_132 (show ¬ (¬ (0 : Int32) < (1 : Int32)) from (by decide)) rfl ?_
      refine wkP.iload 137 at_135 rfl rfl ?_
      refine wkP.iconst 138 (1 : Int32) at_137 rfl rfl ?_
      refine wkP.isub 139 (0 : Int32) at_138 (by decide) rfl ?_
      refine wkP.istore 141 #[.val (.int i0), .val (.long i1), .second, .val (.long i2), .second, .val (.int i3), .val (.int (1 : Int32)), .val (.ref a307), .val (.ref s), .val (.int z), .val (.int (1 : Int32)), .val (.int (0 : Int32)), .unset, .unset] at_139 rfl rfl ?_
      refine wkP.iload 143 at_141 rfl rfl ?_
      refine wkP.ldcI 145 (w101 g.1) at_143 rfl ?_
      refine wkP.imul 146 ((1 : Int32) * (923521 : Int32)) at_145 rfl rfl ?_
      refine wkP.aload 148 at_146 rfl rfl rfl ?_
      refine wkP.iload 150 at_148 rfl rfl ?_
      refine wkP.iconst 151 (4 : Int32) at_150 rfl rfl ?_
      refine wkP.idiv 152 (0 : Int32) at_151 (by decide) (by decide) rfl ?_
      have A317_322 := (A317.keep K320 nn0)
      refine wkP.caload 153 0 c0 A317_322 at_152 rfl rfl rfl ?_
      refine wkP.sipush 156 (29791 : Int32) at_153 rfl rfl ?_
      refine wkP.imul 157 (c0 * (29791 : Int32)) at_156 rfl rfl ?_
      refine wkP.iadd 158 (((1 : Int32) * (923521 : Int32)) + (c0 * (29791 : Int32))) at_157 rfl rfl ?_
      refine wkP.aload 160 at_158 rfl rfl rfl ?_
      refine wkP.iload 162 at_160 rfl rfl ?_
      refine wkP.iconst 163 (2 : Int32) at_162 rfl rfl ?_
      refine wkP.idiv 164 (0 : Int32) at_163 (by decide) (by decide) rfl ?_
      refine wkP.caload 165 0 c0 A317_322 at_164 rfl rfl rfl ?_
      refine wkP.sipush 168 (961 : Int32) at_165 rfl rfl ?_
      refine wkP.imul 169 (c0 * (961 : Int32)) at_168 rfl rfl ?_
      refine wkP.iadd 170 ((((1 : Int32) * (923521 : Int32)) + (c0 * (29791 : Int32))) + (c0 * (961 : Int32))) at_169 rfl rfl ?_
      refine wkP.aload 172 at_170 rfl rfl rfl ?_
      refine wkP.iload 174 at_172 rfl rfl ?_
      refine wkP.iload 176 at_174 rfl rfl ?_
      refine wkP.iconst 177 (4 : Int32) at_176 rfl rfl ?_
      refine wkP.idiv 178 (0 : Int32) at_177 (by decide) (by decide) rfl ?_
      refine wkP.isub 179 (0 : Int32) at_178 (by decide) rfl ?_
      refine wkP.caload 180 0 c0 A317_322 at_179 rfl rfl rfl ?_
      refine wkP.bipush 182 (31 : Int32) at_180 rfl rfl ?_
      refine wkP.imul 183 (c0 * (31 : Int32)) at_182 rfl rfl ?_
      refine wkP.iadd 184 (((((1 : Int32) * (923521 : Int32)) + (c0 * (29791 : Int32))) + (c0 * (961 : Int32))) + (c0 * (31 : Int32))) at_183 rfl rfl ?_
      refine wkP.aload 186 at_184 rfl rfl rfl ?_
      refine wkP.iload 188 at_186 rfl rfl ?_
      refine wkP.caload 189 0 c0 A317_322 at_188 rfl rfl rfl ?_
      refine wkP.iadd 190 ((((((1 : Int32) * (923521 : Int32)) + (c0 * (29791 : Int32))) + (c0 * (961 : Int32))) + (c0 * (31 : Int32))) + c0) at_189 rfl rfl ?_
      rw [show ((((((1 : Int32) * (923521 : Int32)) + (c0 * (29791 : Int32))) + (c0 * (961 : Int32))) + (c0 * (31 : Int32))) + c0) = (((31 : Int32) * (((31 : Int32) * (((31 : Int32) * (((31 : Int32) * (1 : Int32)) + c0)) + c0)) + c0)) + c0) from by exact ring5 _ _ _ _ _]
      refine wkP.istore 192 #[.val (.int i0), .val (.long i1), .second, .val (.long i2), .second, .val (.int i3), .val (.int (1 : Int32)), .val (.ref a307), .val (.ref s), .val (.int z), .val (.int (((31 : Int32) * (((31 : Int32) * (((31 : Int32) * (((31 : Int32) * (1 : Int32)) + c0)) + c0)) + c0)) + c0)), .val (.int (0 : Int32)), .unset, .unset] at_190 rfl rfl ?_
      refine wkP.iload 194 at_192 rfl rfl ?_
      refine wkP.i2l 195 ((((31 : Int32) * (((31 : Int32) * (((31 : Int32) * (((31 : Int32) * (1 : Int32)) + c0)) + c0)) + c0)) + c0)).toInt64 at_194 rfl rfl ?_
      refine wkP.ldcL 198 (w43 g.1) at_195 rfl ?_
      refine wkP.lmul 199 (((((31 : Int32) * (((31 : Int32) * (((31 : Int32) * (((31 : Int32) * (1 : Int32)) + c0)) + c0)) + c0)) + c0)).toInt64 * (2654435769 : Int64)) at_198 rfl rfl ?_
      refine wkP.ldcL 202 (w44 g.1) at_199 rfl ?_
      refine wkP.land 203 ((((((31 : Int32) * (((31 : Int32) * (((31 : Int32) * (((31 : Int32) * (1 : Int32)) + c0)) + c0)) + c0)) + c0)).toInt64 * (2654435769 : Int64)) &&& (4294967295 : Int64)) at_202 rfl rfl ?_
      refine wkP.lstore 205 #[.val (.int i0), .val (.long i1), .second, .val (.long i2), .second, .val (.int i3), .val (.int (1 : Int32)), .val (.ref a307), .val (.ref s), .val (.int z), .val (.int (((31 : Int32) * (((31 : Int32) * (((31 : Int32) * (((31 : Int32) * (1 : Int32)) + c0)) + c0)) + c0)) + c0)), .val (.long ((((((31 : Int32) * (((31 : Int32) * (((31 : Int32) * (((31 : Int32) * (1 : Int32)) + c0)) + c0)) + c0)) + c0)).toInt64 * (2654435769 : Int64)) &&& (4294967295 : Int64))), .second, .unset] at_203 rfl rfl ?_
      refine wkP.lload 207 at_205 rfl rfl ?_
      refine wkP.bipush 209 (26 : Int32) at_207 rfl rfl ?_
      refine wkP.lushr 210 ((((((((31 : Int32) * (((31 : Int32) * (((31 : Int32) * (((31 : Int32) * (1 : Int32)) + c0)) + c0)) + c0)) + c0)).toInt64 * (2654435769 : Int64)) &&& (4294967295 : Int64))).toUInt64 >>> ((26 : Int32) &&& 0x3f).toInt64.toUInt64).toInt64 at_209 rfl rfl ?_
      refine wkP.l2i 211 z at_210 hz2 rfl ?_
      refine wkP.istore 213 #[.val (.int i0), .val (.long i1), .second, .val (.long i2), .second, .val (.int i3), .val (.int (1 : Int32)), .val (.ref a307), .val (.ref s), .val (.int z), .val (.int (((31 : Int32) * (((31 : Int32) * (((31 : Int32) * (((31 : Int32) * (1 : Int32)) + c0)) + c0)) + c0)) + c0)), .val (.long ((((((31 : Int32) * (((31 : Int32) * (((31 : Int32) * (((31 : Int32) * (1 : Int32)) + c0)) + c0)) + c0)) + c0)).toInt64 * (2654435769 : Int64)) &&& (4294967295 : Int64))), .second, .val (.int z)] at_211 rfl rfl ?_
      refine wkP.iload 215 at_213 rfl rfl ?_
      refine wkP.iload 217 at_215 rfl rfl ?_
      refine wkP.icmpF 220 at_217 (show ¬ (¬ z = z) from (fun q => q rfl)) rfl ?_
      refine wkP.iload 222 at_220 rfl rfl ?_
      refine wkP.ifF 225 at_222 (show ¬ (z < (0 : Int32)) from hz3) rfl ?_
      refine wkP.iload 227 at_225 rfl rfl ?_
      refine wkP.bipush 229 (64 : Int32) at_227 rfl rfl ?_
      refine wkP.icmpF 232 at_229 (show ¬ (¬ z < (64 : Int32)) from (fun q => q hz4)) rfl ?_
      refine wkP.iconst 233 (1 : Int32) at_232 rfl rfl ?_
      refine wkP.goto 237 at_233 (by decide) (by decide) ?_
      exact wkP.retI .boolean [] g.2.1 at_237 rfl (by simp) rfl (by decide) (by decide) (by simp) rfl
    · skip
      by_cases hn_2 : n = 2
      · subst hn_2
        refine wkP.callS 117 (M_text2 l Z a0 g _ a307 c0 c1 c2 c3 c4 c5 c6 c7 c8 c9 A317 hk) [(.ref a307), (.int (2 : Int32))] [] 0 g.2.1 (w2 g.1) (w3 g.1) (w4 g.1) (w5 g.1) (by decide) at_114 (lenOf pd17 rfl) rfl rfl rfl (by simp) (Nat.le_of_eq rfl) (by decide) (by decide) (by decide) (by decide) rfl ?_
        rintro v323 h323 o323 ⟨s, t, rfl, rfl, H⟩ K323
        have z323 := K323.1
        refine wkP.astore 119 #[.val (.int i0), .val (.long i1), .second, .val (.long i2), .second, .val (.int i3), .val (.int (2 : Int32)), .val (.ref a307), .val (.ref s), .unset, .unset, .unset, .unset, .unset] at_117 rfl rfl rfl ?_
        refine wkP.aload 121 at_119 rfl rfl rfl ?_
        obtain ⟨z, hz1, hz2, hz3, hz4⟩ := top6 (((31 : Int32) * (((31 : Int32) * (((31 : Int32) * (((31 : Int32) * (2 : Int32)) + c0)) + c0)) + c1)) + c1)
        refine wkP.callS 124 (M_slot2 l Z a0 g _ s t c0 c1 c2 c3 c4 c5 c6 c7 c8 c9 H) [(.ref s)] [] 0 g.2.1 (w27 g.1) (w28 g.1) (w29 g.1) (w30 g.1) (by decide) at_121 (lenOf pd18 rfl) rfl rfl rfl (by simp) (Nat.le_of_eq rfl) (by decide) (by decide) (by decide) (by decide) rfl ?_
        rintro v324 _ o324 ⟨rfl, rfl, rfl⟩ K324
        rw [hz1]
        refine wkP.istore 126 #[.val (.int i0), .val (.long i1), .second, .val (.long i2), .second, .val (.int i3), .val (.int (2 : Int32)), .val (.ref a307), .val (.ref s), .val (.int z), .unset, .unset, .unset, .unset] at_124 rfl rfl ?_
        refine wkP.iload 128 at_126 rfl rfl ?_
        refine wkP.istore 130 #[.val (.int i0), .val (.long i1), .second, .val (.long i2), .second, .val (.int i3), .val (.int (2 : Int32)), .val (.ref a307), .val (.ref s), .val (.int z), .val (.int (2 : Int32)), .unset, .unset, .unset] at_128 rfl rfl ?_
        refine wkP.iload 132 at_130 rfl rfl ?_
        refine wkP.ifF 135 at_132 (show ¬ (¬ (0 : Int32) < (2 : Int32)) from (by decide)) rfl ?_
        refine wkP.iload 137 at_135 rfl rfl ?_
        refine wkP.iconst 138 (1 : Int32) at_137 rfl rfl ?_
        refine wkP.isub 139 (1 : Int32) at_138 (by decide) rfl ?_
        refine wkP.istore 141 #[.val (.int i0), .val (.long i1), .second, .val (.long i2), .second, .val (.int i3), .val (.int (2 : Int32)), .val (.ref a307), .val (.ref s), .val (.int z), .val (.int (2 : Int32)), .val (.int (1 : Int32)), .unset, .unset] at_139 rfl rfl ?_
        refine wkP.iload 143 at_141 rfl rfl ?_
        refine wkP.ldcI 145 (w101 g.1) at_143 rfl ?_
        refine wkP.imul 146 ((2 : Int32) * (923521 : Int32)) at_145 rfl rfl ?_
        refine wkP.aload 148 at_146 rfl rfl rfl ?_
        refine wkP.iload 150 at_148 rfl rfl ?_
        refine wkP.iconst 151 (4 : Int32) at_150 rfl rfl ?_
        refine wkP.idiv 152 (0 : Int32) at_151 (by decide) (by decide) rfl ?_
        have A317_325 := (A317.keep K323 nn0)
        refine wkP.caload 153 0 c0 A317_325 at_152 rfl rfl rfl ?_
        refine wkP.sipush 156 (29791 : Int32) at_153 rfl rfl ?_
        refine wkP.imul 157 (c0 * (29791 : Int32)) at_156 rfl rfl ?_
        refine wkP.iadd 158 (((2 : Int32) * (923521 : Int32)) + (c0 * (29791 : Int32))) at_157 rfl rfl ?_
        refine wkP.aload 160 at_158 rfl rfl rfl ?_
        refine wkP.iload 162 at_160 rfl rfl ?_
        refine wkP.iconst 163 (2 : Int32) at_162 rfl rfl ?_
        refine wkP.idiv 164 (0 : Int32) at_163 (by decide) (by decide) rfl ?_
        refine wkP.caload 165 0 c0 A317_325 at_164 rfl rfl rfl ?_
        refine wkP.sipush 168 (961 : Int32) at_165 rfl rfl ?_
        refine wkP.imul 169 (c0 * (961 : Int32)) at_168 rfl rfl ?_
        refine wkP.iadd 170 ((((2 : Int32) * (923521 : Int32)) + (c0 * (29791 : Int32))) + (c0 * (961 : Int32))) at_169 rfl rfl ?_
        refine wkP.aload 172 at_170 rfl rfl rfl ?_
        refine wkP.iload 174 at_172 rfl rfl ?_
        refine wkP.iload 176 at_174 rfl rfl ?_
        refine wkP.iconst 177 (4 : Int32) at_176 rfl rfl ?_
        refine wkP.idiv 178 (0 : Int32) at_177 (by decide) (by decide) rfl ?_
        refine wkP.isub 179 (1 : Int32) at_178 (by decide) rfl ?_
        refine wkP.caload 180 1 c1 A317_325 at_179 rfl rfl rfl ?_
        refine wkP.bipush 182 (31 : Int32) at_180 rfl rfl ?_
        refine wkP.imul 183 (c1 * (31 : Int32)) at_182 rfl rfl ?_
        refine wkP.iadd 184 (((((2 : Int32) * (923521 : Int32)) + (c0 * (29791 : Int32))) + (c0 * (961 : Int32))) + (c1 * (31 : Int32))) at_183 rfl rfl ?_
        refine wkP.aload 186 at_184 rfl rfl rfl ?_
        refine wkP.iload 188 at_186 rfl rfl ?_
        refine wkP.caload 189 1 c1 A317_325 at_188 rfl rfl rfl ?_
        refine wkP.iadd 190 ((((((2 : Int32) * (923521 : Int32)) + (c0 * (29791 : Int32))) + (c0 * (961 : Int32))) + (c1 * (31 : Int32))) + c1) at_189 rfl rfl ?_
        rw [show ((((((2 : Int32) * (923521 : Int32)) + (c0 * (29791 : Int32))) + (c0 * (961 : Int32))) + (c1 * (31 : Int32))) + c1) = (((31 : Int32) * (((31 : Int32) * (((31 : Int32) * (((31 : Int32) * (2 : Int32)) + c0)) + c0)) + c1)) + c1) from by exact ring5 _ _ _ _ _]
        refine wkP.istore 192 #[.val (.int i0), .val (.long i1), .second, .val (.long i2), .second, .val (.int i3), .val (.int (2 : Int32)), .val (.ref a307), .val (.ref s), .val (.int z), .val (.int (((31 : Int32) * (((31 : Int32) * (((31 : Int32) * (((31 : Int32) * (2 : Int32)) + c0)) + c0)) + c1)) + c1)), .val (.int (1 : Int32)), .unset, .unset] at_190 rfl rfl ?_
        refine wkP.iload 194 at_192 rfl rfl ?_
        refine wkP.i2l 195 ((((31 : Int32) * (((31 : Int32) * (((31 : Int32) * (((31 : Int32) * (2 : Int32)) + c0)) + c0)) + c1)) + c1)).toInt64 at_194 rfl rfl ?_
        refine wkP.ldcL 198 (w43 g.1) at_195 rfl ?_
        refine wkP.lmul 199 (((((31 : Int32) * (((31 : Int32) * (((31 : Int32) * (((31 : Int32) * (2 : Int32)) + c0)) + c0)) + c1)) + c1)).toInt64 * (2654435769 : Int64)) at_198 rfl rfl ?_
        refine wkP.ldcL 202 (w44 g.1) at_199 rfl ?_
        refine wkP.land 203 ((((((31 : Int32) * (((31 : Int32) * (((31 : Int32) * (((31 : Int32) * (2 : Int32)) + c0)) + c0)) + c1)) + c1)).toInt64 * (2654435769 : Int64)) &&& (4294967295 : Int64)) at_202 rfl rfl ?_
        refine wkP.lstore 205 #[.val (.int i0), .val (.long i1), .second, .val (.long i2), .second, .val (.int i3), .val (.int (2 : Int32)), .val (.ref a307), .val (.ref s), .val (.int z), .val (.int (((31 : Int32) * (((31 : Int32) * (((31 : Int32) * (((31 : Int32) * (2 : Int32)) + c0)) + c0)) + c1)) + c1)), .val (.long ((((((31 : Int32) * (((31 : Int32) * (((31 : Int32) * (((31 : Int32) * (2 : Int32)) + c0)) + c0)) + c1)) + c1)).toInt64 * (2654435769 : Int64)) &&& (4294967295 : Int64))), .second, .unset] at_203 rfl rfl ?_
        refine wkP.lload 207 at_205 rfl rfl ?_
        refine wkP.bipush 209 (26 : Int32) at_207 rfl rfl ?_
        refine wkP.lushr 210 ((((((((31 : Int32) * (((31 : Int32) * (((31 : Int32) * (((31 : Int32) * (2 : Int32)) + c0)) + c0)) + c1)) + c1)).toInt64 * (2654435769 : Int64)) &&& (4294967295 : Int64))).toUInt64 >>> ((26 : Int32) &&& 0x3f).toInt64.toUInt64).toInt64 at_209 rfl rfl ?_
        refine wkP.l2i 211 z at_210 hz2 rfl ?_
        refine wkP.istore 213 #[.val (.int i0), .val (.long i1), .second, .val (.long i2), .second, .val (.int i3), .val (.int (2 : Int32)), .val (.ref a307), .val (.ref s), .val (.int z), .val (.int (((31 : Int32) * (((31 : Int32) * (((31 : Int32) * (((31 : Int32) * (2 : Int32)) + c0)) + c0)) + c1)) + c1)), .val (.long ((((((31 : Int32) * (((31 : Int32) * (((31 : Int32) * (((31 : Int32) * (2 : Int32)) + c0)) + c0)) + c1)) + c1)).toInt64 * (2654435769 : Int64)) &&& (4294967295 : Int64))), .second, .val (.int z)] at_211 rfl rfl ?_
        refine wkP.iload 215 at_213 rfl rfl ?_
        refine wkP.iload 217 at_215 rfl rfl ?_
        refine wkP.icmpF 220 at_217 (show ¬ (¬ z = z) from (fun q => q rfl)) rfl ?_
        refine wkP.iload 222 at_220 rfl rfl ?_
        refine wkP.ifF 225 at_222 (show ¬ (z < (0 : Int32)) from hz3) rfl ?_
        refine wkP.iload 227 at_225 rfl rfl ?_
        refine wkP.bipush 229 (64 : Int32) at_227 rfl rfl ?_
        refine wkP.icmpF 232 at_229 (show ¬ (¬ z < (64 : Int32)) from (fun q => q hz4)) rfl ?_
        refine wkP.iconst 233 (1 : Int32) at_232 rfl rfl ?_
        refine wkP.goto 237 at_233 (by decide) (by decide) ?_
        exact wkP.retI .boolean [] g.2.1 at_237 rfl (by simp) rfl (by decide) (by decide) (by simp) rfl
      · skip
        by_cases hn_3 : n = 3
        · subst hn_3
          refine wkP.callS 117 (M_text3 l Z a0 g _ a307 c0 c1 c2 c3 c4 c5 c6 c7 c8 c9 A317 hk) [(.ref a307), (.int (3 : Int32))] [] 0 g.2.1 (w2 g.1) (w3 g.1) (w4 g.1) (w5 g.1) (by decide) at_114 (lenOf pd17 rfl) rfl rfl rfl (by simp) (Nat.le_of_eq rfl) (by decide) (by decide) (by decide) (by decide) rfl ?_
          rintro v326 h326 o326 ⟨s, t, rfl, rfl, H⟩ K326
          have z326 := K326.1
          refine wkP.astore 119 #[.val (.int i0), .val (.long i1), .second, .val (.long i2), .second, .val (.int i3), .val (.int (3 : Int32)), .val (.ref a307), .val (.ref s), .unset, .unset, .unset, .unset, .unset] at_117 rfl rfl rfl ?_
          refine wkP.aload 121 at_119 rfl rfl rfl ?_
          obtain ⟨z, hz1, hz2, hz3, hz4⟩ := top6 (((31 : Int32) * (((31 : Int32) * (((31 : Int32) * (((31 : Int32) * (3 : Int32)) + c0)) + c1)) + c2)) + c2)
          refine wkP.callS 124 (M_slot3 l Z a0 g _ s t c0 c1 c2 c3 c4 c5 c6 c7 c8 c9 H) [(.ref s)] [] 0 g.2.1 (w27 g.1) (w28 g.1) (w29 g.1) (w30 g.1) (by decide) at_121 (lenOf pd18 rfl) rfl rfl rfl (by simp) (Nat.le_of_eq rfl) (by decide) (by decide) (by decide) (by decide) rfl ?_
          rintro v327 _ o327 ⟨rfl, rfl, rfl⟩ K327
          rw [hz1]
          refine wkP.istore 126 #[.val (.int i0), .val (.long i1), .second, .val (.long i2), .second, .val (.int i3), .val (.int (3 : Int32)), .val (.ref a307), .val (.ref s), .val (.int z), .unset, .unset, .unset, .unset] at_124 rfl rfl ?_
          refine wkP.iload 128 at_126 rfl rfl ?_
          refine wkP.istore 130 #[.val (.int i0), .val (.long i1), .second, .val (.long i2), .second, .val (.int i3), .val (.int (3 : Int32)), .val (.ref a307), .val (.ref s), .val (.int z), .val (.int (3 : Int32)), .unset, .unset, .unset] at_128 rfl rfl ?_
          refine wkP.iload 132 at_130 rfl rfl ?_
          refine wkP.ifF 135 at_132 (show ¬ (¬ (0 : Int32) < (3 : Int32)) from (by decide)) rfl ?_
          refine wkP.iload 137 at_135 rfl rfl ?_
          refine wkP.iconst 138 (1 : Int32) at_137 rfl rfl ?_
          refine wkP.isub 139 (2 : Int32) at_138 (by decide) rfl ?_
          refine wkP.istore 141 #[.val (.int i0), .val (.long i1), .second, .val (.long i2), .second, .val (.int i3), .val (.int (3 : Int32)), .val (.ref a307), .val (.ref s), .val (.int z), .val (.int (3 : Int32)), .val (.int (2 : Int32)), .unset, .unset] at_139 rfl rfl ?_
          refine wkP.iload 143 at_141 rfl rfl ?_
          refine wkP.ldcI 145 (w101 g.1) at_143 rfl ?_
          refine wkP.imul 146 ((3 : Int32) * (923521 : Int32)) at_145 rfl rfl ?_
          refine wkP.aload 148 at_146 rfl rfl rfl ?_
          refine wkP.iload 150 at_148 rfl rfl ?_
          refine wkP.iconst 151 (4 : Int32) at_150 rfl rfl ?_
          refine wkP.idiv 152 (0 : Int32) at_151 (by decide) (by decide) rfl ?_
          have A317_328 := (A317.keep K326 nn0)
          refine wkP.caload 153 0 c0 A317_328 at_152 rfl rfl rfl ?_
          refine wkP.sipush 156 (29791 : Int32) at_153 rfl rfl ?_
          refine wkP.imul 157 (c0 * (29791 : Int32)) at_156 rfl rfl ?_
          refine wkP.iadd 158 (((3 : Int32) * (923521 : Int32)) + (c0 * (29791 : Int32))) at_157 rfl rfl ?_
          refine wkP.aload 160 at_158 rfl rfl rfl ?_
          refine wkP.iload 162 at_160 rfl rfl ?_
          refine wkP.iconst 163 (2 : Int32) at_162 rfl rfl ?_
          refine wkP.idiv 164 (1 : Int32) at_163 (by decide) (by decide) rfl ?_
          refine wkP.caload 165 1 c1 A317_328 at_164 rfl rfl rfl ?_
          refine wkP.sipush 168 (961 : Int32) at_165 rfl rfl ?_
          refine wkP.imul 169 (c1 * (961 : Int32)) at_168 rfl rfl ?_
          refine wkP.iadd 170 ((((3 : Int32) * (923521 : Int32)) + (c0 * (29791 : Int32))) + (c1 * (961 : Int32))) at_169 rfl rfl ?_
          refine wkP.aload 172 at_170 rfl rfl rfl ?_
          refine wkP.iload 174 at_172 rfl rfl ?_
          refine wkP.iload 176 at_174 rfl rfl ?_
          refine wkP.iconst 177 (4 : Int32) at_176 rfl rfl ?_
          refine wkP.idiv 178 (0 : Int32) at_177 (by decide) (by decide) rfl ?_
          refine wkP.isub 179 (2 : Int32) at_178 (by decide) rfl ?_
          refine wkP.caload 180 2 c2 A317_328 at_179 rfl rfl rfl ?_
          refine wkP.bipush 182 (31 : Int32) at_180 rfl rfl ?_
          refine wkP.imul 183 (c2 * (31 : Int32)) at_182 rfl rfl ?_
          refine wkP.iadd 184 (((((3 : Int32) * (923521 : Int32)) + (c0 * (29791 : Int32))) + (c1 * (961 : Int32))) + (c2 * (31 : Int32))) at_183 rfl rfl ?_
          refine wkP.aload 186 at_184 rfl rfl rfl ?_
          refine wkP.iload 188 at_186 rfl rfl ?_
          refine wkP.caload 189 2 c2 A317_328 at_188 rfl rfl rfl ?_
          refine wkP.iadd 190 ((((((3 : Int32) * (923521 : Int32)) + (c0 * (29791 : Int32))) + (c1 * (961 : Int32))) + (c2 * (31 : Int32))) + c2) at_189 rfl rfl ?_
          rw [show ((((((3 : Int32) * (923521 : Int32)) + (c0 * (29791 : Int32))) + (c1 * (961 : Int32))) + (c2 * (31 : Int32))) + c2) = (((31 : Int32) * (((31 : Int32) * (((31 : Int32) * (((31 : Int32) * (3 : Int32)) + c0)) + c1)) + c2)) + c2) from by exact ring5 _ _ _ _ _]
          refine wkP.istore 192 #[.val (.int i0), .val (.long i1), .second, .val (.long i2), .second, .val (.int i3), .val (.int (3 : Int32)), .val (.ref a307), .val (.ref s), .val (.int z), .val (.int (((31 : Int32) * (((31 : Int32) * (((31 : Int32) * (((31 : Int32) * (3 : Int32)) + c0)) + c1)) + c2)) + c2)), .val (.int (2 : Int32)), .unset, .unset] at_190 rfl rfl ?_
          refine wkP.iload 194 at_192 rfl rfl ?_
          refine wkP.i2l 195 ((((31 : Int32) * (((31 : Int32) * (((31 : Int32) * (((31 : Int32) * (3 : Int32)) + c0)) + c1)) + c2)) + c2)).toInt64 at_194 rfl rfl ?_
          refine wkP.ldcL 198 (w43 g.1) at_195 rfl ?_
          refine wkP.lmul 199 (((((31 : Int32) * (((31 : Int32) * (((31 : Int32) * (((31 : Int32) * (3 : Int32)) + c0)) + c1)) + c2)) + c2)).toInt64 * (2654435769 : Int64)) at_198 rfl rfl ?_
          refine wkP.ldcL 202 (w44 g.1) at_199 rfl ?_
          refine wkP.land 203 ((((((31 : Int32) * (((31 : Int32) * (((31 : Int32) * (((31 : Int32) * (3 : Int32)) + c0)) + c1)) + c2)) + c2)).toInt64 * (2654435769 : Int64)) &&& (4294967295 : Int64)) at_202 rfl rfl ?_
          refine wkP.lstore 205 #[.val (.int i0), .val (.long i1), .second, .val (.long i2), .second, .val (.int i3), .val (.int (3 : Int32)), .val (.ref a307), .val (.ref s), .val (.int z), .val (.int (((31 : Int32) * (((31 : Int32) * (((31 : Int32) * (((31 : Int32) * (3 : Int32)) + c0)) + c1)) + c2)) + c2)), .val (.long ((((((31 : Int32) * (((31 : Int32) * (((31 : Int32) * (((31 : Int32) * (3 : Int32)) + c0)) + c1)) + c2)) + c2)).toInt64 * (2654435769 : Int64)) &&& (4294967295 : Int64))), .second, .unset] at_203 rfl rfl ?_
          refine wkP.lload 207 at_205 rfl rfl ?_
          refine wkP.bipush 209 (26 : Int32) at_207 rfl rfl ?_
          refine wkP.lushr 210 ((((((((31 : Int32) * (((31 : Int32) * (((31 : Int32) * (((31 : Int32) * (3 : Int32)) + c0)) + c1)) + c2)) + c2)).toInt64 * (2654435769 : Int64)) &&& (4294967295 : Int64))).toUInt64 >>> ((26 : Int32) &&& 0x3f).toInt64.toUInt64).toInt64 at_209 rfl rfl ?_
          refine wkP.l2i 211 z at_210 hz2 rfl ?_
          refine wkP.istore 213 #[.val (.int i0), .val (.long i1), .second, .val (.long i2), .second, .val (.int i3), .val (.int (3 : Int32)), .val (.ref a307), .val (.ref s), .val (.int z), .val (.int (((31 : Int32) * (((31 : Int32) * (((31 : Int32) * (((31 : Int32) * (3 : Int32)) + c0)) + c1)) + c2)) + c2)), .val (.long ((((((31 : Int32) * (((31 : Int32) * (((31 : Int32) * (((31 : Int32) * (3 : Int32)) + c0)) + c1)) + c2)) + c2)).toInt64 * (2654435769 : Int64)) &&& (4294967295 : Int64))), .second, .val (.int z)] at_211 rfl rfl ?_
          refine wkP.iload 215 at_213 rfl rfl ?_
          refine wkP.iload 217 at_215 rfl rfl ?_
          refine wkP.icmpF 220 at_217 (show ¬ (¬ z = z) from (fun q => q rfl)) rfl ?_
          refine wkP.iload 222 at_220 rfl rfl ?_
          refine wkP.ifF 225 at_222 (show ¬ (z < (0 : Int32)) from hz3) rfl ?_
          refine wkP.iload 227 at_225 rfl rfl ?_
          refine wkP.bipush 229 (64 : Int32) at_227 rfl rfl ?_
          refine wkP.icmpF 232 at_229 (show ¬ (¬ z < (64 : Int32)) from (fun q => q hz4)) rfl ?_
          refine wkP.iconst 233 (1 : Int32) at_232 rfl rfl ?_
          refine wkP.goto 237 at_233 (by decide) (by decide) ?_
          exact wkP.retI .boolean [] g.2.1 at_237 rfl (by simp) rfl (by decide) (by decide) (by simp) rfl
        · skip
          by_cases hn_4 : n = 4
          · subst hn_4
            refine wkP.callS 117 (M_text4 l Z a0 g _ a307 c0 c1 c2 c3 c4 c5 c6 c7 c8 c9 A317 hk) [(.ref a307), (.int (4 : Int32))] [] 0 g.2.1 (w2 g.1) (w3 g.1) (w4 g.1) (w5 g.1) (by decide) at_114 (lenOf pd17 rfl) rfl rfl rfl (by simp) (Nat.le_of_eq rfl) (by decide) (by decide) (by decide) (by decide) rfl ?_
            rintro v329 h329 o329 ⟨s, t, rfl, rfl, H⟩ K329
            have z329 := K329.1
            refine wkP.astore 119 #[.val (.int i0), .val (.long i1), .second, .val (.long i2), .second, .val (.int i3), .val (.int (4 : Int32)), .val (.ref a307), .val (.ref s), .unset, .unset, .unset, .unset, .unset] at_117 rfl rfl rfl ?_
            refine wkP.aload 121 at_119 rfl rfl rfl ?_
            obtain ⟨z, hz1, hz2, hz3, hz4⟩ := top6 (((31 : Int32) * (((31 : Int32) * (((31 : Int32) * (((31 : Int32) * (4 : Int32)) + c0)) + c1)) + c3)) + c3)
            refine wkP.callS 124 (M_slot4 l Z a0 g _ s t c0 c1 c2 c3 c4 c5 c6 c7 c8 c9 H) [(.ref s)] [] 0 g.2.1 (w27 g.1) (w28 g.1) (w29 g.1) (w30 g.1) (by decide) at_121 (lenOf pd18 rfl) rfl rfl rfl (by simp) (Nat.le_of_eq rfl) (by decide) (by decide) (by decide) (by decide) rfl ?_
            rintro v330 _ o330 ⟨rfl, rfl, rfl⟩ K330
            rw [hz1]
            refine wkP.istore 126 #[.val (.int i0), .val (.long i1), .second, .val (.long i2), .second, .val (.int i3), .val (.int (4 : Int32)), .val (.ref a307), .val (.ref s), .val (.int z), .unset, .unset, .unset, .unset] at_124 rfl rfl ?_
            refine wkP.iload 128 at_126 rfl rfl ?_
            refine wkP.istore 130 #[.val (.int i0), .val (.long i1), .second, .val (.long i2), .second, .val (.int i3), .val (.int (4 : Int32)), .val (.ref a307), .val (.ref s), .val (.int z), .val (.int (4 : Int32)), .unset, .unset, .unset] at_128 rfl rfl ?_
            refine wkP.iload 132 at_130 rfl rfl ?_
            refine wkP.ifF 135 at_132 (show ¬ (¬ (0 : Int32) < (4 : Int32)) from (by decide)) rfl ?_
            refine wkP.iload 137 at_135 rfl rfl ?_
            refine wkP.iconst 138 (1 : Int32) at_137 rfl rfl ?_
            refine wkP.isub 139 (3 : Int32) at_138 (by decide) rfl ?_
            refine wkP.istore 141 #[.val (.int i0), .val (.long i1), .second, .val (.long i2), .second, .val (.int i3), .val (.int (4 : Int32)), .val (.ref a307), .val (.ref s), .val (.int z), .val (.int (4 : Int32)), .val (.int (3 : Int32)), .unset, .unset] at_139 rfl rfl ?_
            refine wkP.iload 143 at_141 rfl rfl ?_
            refine wkP.ldcI 145 (w101 g.1) at_143 rfl ?_
            refine wkP.imul 146 ((4 : Int32) * (923521 : Int32)) at_145 rfl rfl ?_
            refine wkP.aload 148 at_146 rfl rfl rfl ?_
            refine wkP.iload 150 at_148 rfl rfl ?_
            refine wkP.iconst 151 (4 : Int32) at_150 rfl rfl ?_
            refine wkP.idiv 152 (0 : Int32) at_151 (by decide) (by decide) rfl ?_
            have A317_331 := (A317.keep K329 nn0)
            refine wkP.caload 153 0 c0 A317_331 at_152 rfl rfl rfl ?_
            refine wkP.sipush 156 (29791 : Int32) at_153 rfl rfl ?_
            refine wkP.imul 157 (c0 * (29791 : Int32)) at_156 rfl rfl ?_
            refine wkP.iadd 158 (((4 : Int32) * (923521 : Int32)) + (c0 * (29791 : Int32))) at_157 rfl rfl ?_
            refine wkP.aload 160 at_158 rfl rfl rfl ?_
            refine wkP.iload 162 at_160 rfl rfl ?_
            refine wkP.iconst 163 (2 : Int32) at_162 rfl rfl ?_
            refine wkP.idiv 164 (1 : Int32) at_163 (by decide) (by decide) rfl ?_
            refine wkP.caload 165 1 c1 A317_331 at_164 rfl rfl rfl ?_
            refine wkP.sipush 168 (961 : Int32) at_165 rfl rfl ?_
            refine wkP.imul 169 (c1 * (961 : Int32)) at_168 rfl rfl ?_
            refine wkP.iadd 170 ((((4 : Int32) * (923521 : Int32)) + (c0 * (29791 : Int32))) + (c1 * (961 : Int32))) at_169 rfl rfl ?_
            refine wkP.aload 172 at_170 rfl rfl rfl ?_
            refine wkP.iload 174 at_172 rfl rfl ?_
            refine wkP.iload 176 at_174 rfl rfl ?_
            refine wkP.iconst 177 (4 : Int32) at_176 rfl rfl ?_
            refine wkP.idiv 178 (0 : Int32) at_177 (by decide) (by decide) rfl ?_
            refine wkP.isub 179 (3 : Int32) at_178 (by decide) rfl ?_
            refine wkP.caload 180 3 c3 A317_331 at_179 rfl rfl rfl ?_
            refine wkP.bipush 182 (31 : Int32) at_180 rfl rfl ?_
            refine wkP.imul 183 (c3 * (31 : Int32)) at_182 rfl rfl ?_
            refine wkP.iadd 184 (((((4 : Int32) * (923521 : Int32)) + (c0 * (29791 : Int32))) + (c1 * (961 : Int32))) + (c3 * (31 : Int32))) at_183 rfl rfl ?_
            refine wkP.aload 186 at_184 rfl rfl rfl ?_
            refine wkP.iload 188 at_186 rfl rfl ?_
            refine wkP.caload 189 3 c3 A317_331 at_188 rfl rfl rfl ?_
            refine wkP.iadd 190 ((((((4 : Int32) * (923521 : Int32)) + (c0 * (29791 : Int32))) + (c1 * (961 : Int32))) + (c3 * (31 : Int32))) + c3) at_189 rfl rfl ?_
            rw [show ((((((4 : Int32) * (923521 : Int32)) + (c0 * (29791 : Int32))) + (c1 * (961 : Int32))) + (c3 * (31 : Int32))) + c3) = (((31 : Int32) * (((31 : Int32) * (((31 : Int32) * (((31 : Int32) * (4 : Int32)) + c0)) + c1)) + c3)) + c3) from by exact ring5 _ _ _ _ _]
            refine wkP.istore 192 #[.val (.int i0), .val (.long i1), .second, .val (.long i2), .second, .val (.int i3), .val (.int (4 : Int32)), .val (.ref a307), .val (.ref s), .val (.int z), .val (.int (((31 : Int32) * (((31 : Int32) * (((31 : Int32) * (((31 : Int32) * (4 : Int32)) + c0)) + c1)) + c3)) + c3)), .val (.int (3 : Int32)), .unset, .unset] at_190 rfl rfl ?_
            refine wkP.iload 194 at_192 rfl rfl ?_
            refine wkP.i2l 195 ((((31 : Int32) * (((31 : Int32) * (((31 : Int32) * (((31 : Int32) * (4 : Int32)) + c0)) + c1)) + c3)) + c3)).toInt64 at_194 rfl rfl ?_
            refine wkP.ldcL 198 (w43 g.1) at_195 rfl ?_
            refine wkP.lmul 199 (((((31 : Int32) * (((31 : Int32) * (((31 : Int32) * (((31 : Int32) * (4 : Int32)) + c0)) + c1)) + c3)) + c3)).toInt64 * (2654435769 : Int64)) at_198 rfl rfl ?_
            refine wkP.ldcL 202 (w44 g.1) at_199 rfl ?_
            refine wkP.land 203 ((((((31 : Int32) * (((31 : Int32) * (((31 : Int32) * (((31 : Int32) * (4 : Int32)) + c0)) + c1)) + c3)) + c3)).toInt64 * (2654435769 : Int64)) &&& (4294967295 : Int64)) at_202 rfl rfl ?_
            refine wkP.lstore 205 #[.val (.int i0), .val (.long i1), .second, .val (.long i2), .second, .val (.int i3), .val (.int (4 : Int32)), .val (.ref a307), .val (.ref s), .val (.int z), .val (.int (((31 : Int32) * (((31 : Int32) * (((31 : Int32) * (((31 : Int32) * (4 : Int32)) + c0)) + c1)) + c3)) + c3)), .val (.long ((((((31 : Int32) * (((31 : Int32) * (((31 : Int32) * (((31 : Int32) * (4 : Int32)) + c0)) + c1)) + c3)) + c3)).toInt64 * (2654435769 : Int64)) &&& (4294967295 : Int64))), .second, .unset] at_203 rfl rfl ?_
            refine wkP.lload 207 at_205 rfl rfl ?_
            refine wkP.bipush 209 (26 : Int32) at_207 rfl rfl ?_
            refine wkP.lushr 210 ((((((((31 : Int32) * (((31 : Int32) * (((31 : Int32) * (((31 : Int32) * (4 : Int32)) + c0)) + c1)) + c3)) + c3)).toInt64 * (2654435769 : Int64)) &&& (4294967295 : Int64))).toUInt64 >>> ((26 : Int32) &&& 0x3f).toInt64.toUInt64).toInt64 at_209 rfl rfl ?_
            refine wkP.l2i 211 z at_210 hz2 rfl ?_
            refine wkP.istore 213 #[.val (.int i0), .val (.long i1), .second, .val (.long i2), .second, .val (.int i3), .val (.int (4 : Int32)), .val (.ref a307), .val (.ref s), .val (.int z), .val (.int (((31 : Int32) * (((31 : Int32) * (((31 : Int32) * (((31 : Int32) * (4 : Int32)) + c0)) + c1)) + c3)) + c3)), .val (.long ((((((31 : Int32) * (((31 : Int32) * (((31 : Int32) * (((31 : Int32) * (4 : Int32)) + c0)) + c1)) + c3)) + c3)).toInt64 * (2654435769 : Int64)) &&& (4294967295 : Int64))), .second, .val (.int z)] at_211 rfl rfl ?_
            refine wkP.iload 215 at_213 rfl rfl ?_
            refine wkP.iload 217 at_215 rfl rfl ?_
            refine wkP.icmpF 220 at_217 (show ¬ (¬ z = z) from (fun q => q rfl)) rfl ?_
            refine wkP.iload 222 at_220 rfl rfl ?_
            refine wkP.ifF 225 at_222 (show ¬ (z < (0 : Int32)) from hz3) rfl ?_
            refine wkP.iload 227 at_225 rfl rfl ?_
            refine wkP.bipush 229 (64 : Int32) at_227 rfl rfl ?_
            refine wkP.icmpF 232 at_229 (show ¬ (¬ z < (64 : Int32)) from (fun q => q hz4)) rfl ?_
            refine wkP.iconst 233 (1 : Int32) at_232 rfl rfl ?_
            refine wkP.goto 237 at_233 (by decide) (by decide) ?_
            exact wkP.retI .boolean [] g.2.1 at_237 rfl (by simp) rfl (by decide) (by decide) (by simp) rfl
          · skip
            by_cases hn_5 : n = 5
            · subst hn_5
              refine wkP.callS 117 (M_text5 l Z a0 g _ a307 c0 c1 c2 c3 c4 c5 c6 c7 c8 c9 A317 hk) [(.ref a307), (.int (5 : Int32))] [] 0 g.2.1 (w2 g.1) (w3 g.1) (w4 g.1) (w5 g.1) (by decide) at_114 (lenOf pd17 rfl) rfl rfl rfl (by simp) (Nat.le_of_eq rfl) (by decide) (by decide) (by decide) (by decide) rfl ?_
              rintro v332 h332 o332 ⟨s, t, rfl, rfl, H⟩ K332
              have z332 := K332.1
              refine wkP.astore 119 #[.val (.int i0), .val (.long i1), .second, .val (.long i2), .second, .val (.int i3), .val (.int (5 : Int32)), .val (.ref a307), .val (.ref s), .unset, .unset, .unset, .unset, .unset] at_117 rfl rfl rfl ?_
              refine wkP.aload 121 at_119 rfl rfl rfl ?_
              obtain ⟨z, hz1, hz2, hz3, hz4⟩ := top6 (((31 : Int32) * (((31 : Int32) * (((31 : Int32) * (((31 : Int32) * (5 : Int32)) + c1)) + c2)) + c3)) + c4)
              refine wkP.callS 124 (M_slot5 l Z a0 g _ s t c0 c1 c2 c3 c4 c5 c6 c7 c8 c9 H) [(.ref s)] [] 0 g.2.1 (w27 g.1) (w28 g.1) (w29 g.1) (w30 g.1) (by decide) at_121 (lenOf pd18 rfl) rfl rfl rfl (by simp) (Nat.le_of_eq rfl) (by decide) (by decide) (by decide) (by decide) rfl ?_
              rintro v333 _ o333 ⟨rfl, rfl, rfl⟩ K333
              rw [hz1]
              refine wkP.istore 126 #[.val (.int i0), .val (.long i1), .second, .val (.long i2), .second, .val (.int i3), .val (.int (5 : Int32)), .val (.ref a307), .val (.ref s), .val (.int z), .unset, .unset, .unset, .unset] at_124 rfl rfl ?_
              refine wkP.iload 128 at_126 rfl rfl ?_
              refine wkP.istore 130 #[.val (.int i0), .val (.long i1), .second, .val (.long i2), .second, .val (.int i3), .val (.int (5 : Int32)), .val (.ref a307), .val (.ref s), .val (.int z), .val (.int (5 : Int32)), .unset, .unset, .unset] at_128 rfl rfl ?_
              refine wkP.iload 132 at_130 rfl rfl ?_
              refine wkP.ifF 135 at_132 (show ¬ (¬ (0 : Int32) < (5 : Int32)) from (by decide)) rfl ?_
              refine wkP.iload 137 at_135 rfl rfl ?_
              refine wkP.iconst 138 (1 : Int32) at_137 rfl rfl ?_
              refine wkP.isub 139 (4 : Int32) at_138 (by decide) rfl ?_
              refine wkP.istore 141 #[.val (.int i0), .val (.long i1), .second, .val (.long i2), .second, .val (.int i3), .val (.int (5 : Int32)), .val (.ref a307), .val (.ref s), .val (.int z), .val (.int (5 : Int32)), .val (.int (4 : Int32)), .unset, .unset] at_139 rfl rfl ?_
              refine wkP.iload 143 at_141 rfl rfl ?_
              refine wkP.ldcI 145 (w101 g.1) at_143 rfl ?_
              refine wkP.imul 146 ((5 : Int32) * (923521 : Int32)) at_145 rfl rfl ?_
              refine wkP.aload 148 at_146 rfl rfl rfl ?_
              refine wkP.iload 150 at_148 rfl rfl ?_
              refine wkP.iconst 151 (4 : Int32) at_150 rfl rfl ?_
              refine wkP.idiv 152 (1 : Int32) at_151 (by decide) (by decide) rfl ?_
              have A317_334 := (A317.keep K332 nn0)
              refine wkP.caload 153 1 c1 A317_334 at_152 rfl rfl rfl ?_
              refine wkP.sipush 156 (29791 : Int32) at_153 rfl rfl ?_
              refine wkP.imul 157 (c1 * (29791 : Int32)) at_156 rfl rfl ?_
              refine wkP.iadd 158 (((5 : Int32) * (923521 : Int32)) + (c1 * (29791 : Int32))) at_157 rfl rfl ?_
              refine wkP.aload 160 at_158 rfl rfl rfl ?_
              refine wkP.iload 162 at_160 rfl rfl ?_
              refine wkP.iconst 163 (2 : Int32) at_162 rfl rfl ?_
              refine wkP.idiv 164 (2 : Int32) at_163 (by decide) (by decide) rfl ?_
              refine wkP.caload 165 2 c2 A317_334 at_164 rfl rfl rfl ?_
              refine wkP.sipush 168 (961 : Int32) at_165 rfl rfl ?_
              refine wkP.imul 169 (c2 * (961 : Int32)) at_168 rfl rfl ?_
              refine wkP.iadd 170 ((((5 : Int32) * (923521 : Int32)) + (c1 * (29791 : Int32))) + (c2 * (961 : Int32))) at_169 rfl rfl ?_
              refine wkP.aload 172 at_170 rfl rfl rfl ?_
              refine wkP.iload 174 at_172 rfl rfl ?_
              refine wkP.iload 176 at_174 rfl rfl ?_
              refine wkP.iconst 177 (4 : Int32) at_176 rfl rfl ?_
              refine wkP.idiv 178 (1 : Int32) at_177 (by decide) (by decide) rfl ?_
              refine wkP.isub 179 (3 : Int32) at_178 (by decide) rfl ?_
              refine wkP.caload 180 3 c3 A317_334 at_179 rfl rfl rfl ?_
              refine wkP.bipush 182 (31 : Int32) at_180 rfl rfl ?_
              refine wkP.imul 183 (c3 * (31 : Int32)) at_182 rfl rfl ?_
              refine wkP.iadd 184 (((((5 : Int32) * (923521 : Int32)) + (c1 * (29791 : Int32))) + (c2 * (961 : Int32))) + (c3 * (31 : Int32))) at_183 rfl rfl ?_
              refine wkP.aload 186 at_184 rfl rfl rfl ?_
              refine wkP.iload 188 at_186 rfl rfl ?_
              refine wkP.caload 189 4 c4 A317_334 at_188 rfl rfl rfl ?_
              refine wkP.iadd 190 ((((((5 : Int32) * (923521 : Int32)) + (c1 * (29791 : Int32))) + (c2 * (961 : Int32))) + (c3 * (31 : Int32))) + c4) at_189 rfl rfl ?_
              rw [show ((((((5 : Int32) * (923521 : Int32)) + (c1 * (29791 : Int32))) + (c2 * (961 : Int32))) + (c3 * (31 : Int32))) + c4) = (((31 : Int32) * (((31 : Int32) * (((31 : Int32) * (((31 : Int32) * (5 : Int32)) + c1)) + c2)) + c3)) + c4) from by exact ring5 _ _ _ _ _]
              refine wkP.istore 192 #[.val (.int i0), .val (.long i1), .second, .val (.long i2), .second, .val (.int i3), .val (.int (5 : Int32)), .val (.ref a307), .val (.ref s), .val (.int z), .val (.int (((31 : Int32) * (((31 : Int32) * (((31 : Int32) * (((31 : Int32) * (5 : Int32)) + c1)) + c2)) + c3)) + c4)), .val (.int (4 : Int32)), .unset, .unset] at_190 rfl rfl ?_
              refine wkP.iload 194 at_192 rfl rfl ?_
              refine wkP.i2l 195 ((((31 : Int32) * (((31 : Int32) * (((31 : Int32) * (((31 : Int32) * (5 : Int32)) + c1)) + c2)) + c3)) + c4)).toInt64 at_194 rfl rfl ?_
              refine wkP.ldcL 198 (w43 g.1) at_195 rfl ?_
              refine wkP.lmul 199 (((((31 : Int32) * (((31 : Int32) * (((31 : Int32) * (((31 : Int32) * (5 : Int32)) + c1)) + c2)) + c3)) + c4)).toInt64 * (2654435769 : Int64)) at_198 rfl rfl ?_
              refine wkP.ldcL 202 (w44 g.1) at_199 rfl ?_
              refine wkP.land 203 ((((((31 : Int32) * (((31 : Int32) * (((31 : Int32) * (((31 : Int32) * (5 : Int32)) + c1)) + c2)) + c3)) + c4)).toInt64 * (2654435769 : Int64)) &&& (4294967295 : Int64)) at_202 rfl rfl ?_
              refine wkP.lstore 205 #[.val (.int i0), .val (.long i1), .second, .val (.long i2), .second, .val (.int i3), .val (.int (5 : Int32)), .val (.ref a307), .val (.ref s), .val (.int z), .val (.int (((31 : Int32) * (((31 : Int32) * (((31 : Int32) * (((31 : Int32) * (5 : Int32)) + c1)) + c2)) + c3)) + c4)), .val (.long ((((((31 : Int32) * (((31 : Int32) * (((31 : Int32) * (((31 : Int32) * (5 : Int32)) + c1)) + c2)) + c3)) + c4)).toInt64 * (2654435769 : Int64)) &&& (4294967295 : Int64))), .second, .unset] at_203 rfl rfl ?_
              refine wkP.lload 207 at_205 rfl rfl ?_
              refine wkP.bipush 209 (26 : Int32) at_207 rfl rfl ?_
              refine wkP.lushr 210 ((((((((31 : Int32) * (((31 : Int32) * (((31 : Int32) * (((31 : Int32) * (5 : Int32)) + c1)) + c2)) + c3)) + c4)).toInt64 * (2654435769 : Int64)) &&& (4294967295 : Int64))).toUInt64 >>> ((26 : Int32) &&& 0x3f).toInt64.toUInt64).toInt64 at_209 rfl rfl ?_
              refine wkP.l2i 211 z at_210 hz2 rfl ?_
              refine wkP.istore 213 #[.val (.int i0), .val (.long i1), .second, .val (.long i2), .second, .val (.int i3), .val (.int (5 : Int32)), .val (.ref a307), .val (.ref s), .val (.int z), .val (.int (((31 : Int32) * (((31 : Int32) * (((31 : Int32) * (((31 : Int32) * (5 : Int32)) + c1)) + c2)) + c3)) + c4)), .val (.long ((((((31 : Int32) * (((31 : Int32) * (((31 : Int32) * (((31 : Int32) * (5 : Int32)) + c1)) + c2)) + c3)) + c4)).toInt64 * (2654435769 : Int64)) &&& (4294967295 : Int64))), .second, .val (.int z)] at_211 rfl rfl ?_
              refine wkP.iload 215 at_213 rfl rfl ?_
              refine wkP.iload 217 at_215 rfl rfl ?_
              refine wkP.icmpF 220 at_217 (show ¬ (¬ z = z) from (fun q => q rfl)) rfl ?_
              refine wkP.iload 222 at_220 rfl rfl ?_
              refine wkP.ifF 225 at_222 (show ¬ (z < (0 : Int32)) from hz3) rfl ?_
              refine wkP.iload 227 at_225 rfl rfl ?_
              refine wkP.bipush 229 (64 : Int32) at_227 rfl rfl ?_
              refine wkP.icmpF 232 at_229 (show ¬ (¬ z < (64 : Int32)) from (fun q => q hz4)) rfl ?_
              refine wkP.iconst 233 (1 : Int32) at_232 rfl rfl ?_
              refine wkP.goto 237 at_233 (by decide) (by decide) ?_
              exact wkP.retI .boolean [] g.2.1 at_237 rfl (by simp) rfl (by decide) (by decide) (by simp) rfl
            · skip
              by_cases hn_6 : n = 6
              · subst hn_6
                refine wkP.callS 117 (M_text6 l Z a0 g _ a307 c0 c1 c2 c3 c4 c5 c6 c7 c8 c9 A317 hk) [(.ref a307), (.int (6 : Int32))] [] 0 g.2.1 (w2 g.1) (w3 g.1) (w4 g.1) (w5 g.1) (by decide) at_114 (lenOf pd17 rfl) rfl rfl rfl (by simp) (Nat.le_of_eq rfl) (by decide) (by decide) (by decide) (by decide) rfl ?_
                rintro v335 h335 o335 ⟨s, t, rfl, rfl, H⟩ K335
                have z335 := K335.1
                refine wkP.astore 119 #[.val (.int i0), .val (.long i1), .second, .val (.long i2), .second, .val (.int i3), .val (.int (6 : Int32)), .val (.ref a307), .val (.ref s), .unset, .unset, .unset, .unset, .unset] at_117 rfl rfl rfl ?_
                refine wkP.aload 121 at_119 rfl rfl rfl ?_
                obtain ⟨z, hz1, hz2, hz3, hz4⟩ := top6 (((31 : Int32) * (((31 : Int32) * (((31 : Int32) * (((31 : Int32) * (6 : Int32)) + c1)) + c2)) + c4)) + c5)
                refine wkP.callS 124 (M_slot6 l Z a0 g _ s t c0 c1 c2 c3 c4 c5 c6 c7 c8 c9 H) [(.ref s)] [] 0 g.2.1 (w27 g.1) (w28 g.1) (w29 g.1) (w30 g.1) (by decide) at_121 (lenOf pd18 rfl) rfl rfl rfl (by simp) (Nat.le_of_eq rfl) (by decide) (by decide) (by decide) (by decide) rfl ?_
                rintro v336 _ o336 ⟨rfl, rfl, rfl⟩ K336
                rw [hz1]
                refine wkP.istore 126 #[.val (.int i0), .val (.long i1), .second, .val (.long i2), .second, .val (.int i3), .val (.int (6 : Int32)), .val (.ref a307), .val (.ref s), .val (.int z), .unset, .unset, .unset, .unset] at_124 rfl rfl ?_
                refine wkP.iload 128 at_126 rfl rfl ?_
                refine wkP.istore 130 #[.val (.int i0), .val (.long i1), .second, .val (.long i2), .second, .val (.int i3), .val (.int (6 : Int32)), .val (.ref a307), .val (.ref s), .val (.int z), .val (.int (6 : Int32)), .unset, .unset, .unset] at_128 rfl rfl ?_
                refine wkP.iload 132 at_130 rfl rfl ?_
                refine wkP.ifF 135 at_132 (show ¬ (¬ (0 : Int32) < (6 : Int32)) from (by decide)) rfl ?_
                refine wkP.iload 137 at_135 rfl rfl ?_
                refine wkP.iconst 138 (1 : Int32) at_137 rfl rfl ?_
                refine wkP.isub 139 (5 : Int32) at_138 (by decide) rfl ?_
                refine wkP.istore 141 #[.val (.int i0), .val (.long i1), .second, .val (.long i2), .second, .val (.int i3), .val (.int (6 : Int32)), .val (.ref a307), .val (.ref s), .val (.int z), .val (.int (6 : Int32)), .val (.int (5 : Int32)), .unset, .unset] at_139 rfl rfl ?_
                refine wkP.iload 143 at_141 rfl rfl ?_
                refine wkP.ldcI 145 (w101 g.1) at_143 rfl ?_
                refine wkP.imul 146 ((6 : Int32) * (923521 : Int32)) at_145 rfl rfl ?_
                refine wkP.aload 148 at_146 rfl rfl rfl ?_
                refine wkP.iload 150 at_148 rfl rfl ?_
                refine wkP.iconst 151 (4 : Int32) at_150 rfl rfl ?_
                refine wkP.idiv 152 (1 : Int32) at_151 (by decide) (by decide) rfl ?_
                have A317_337 := (A317.keep K335 nn0)
                refine wkP.caload 153 1 c1 A317_337 at_152 rfl rfl rfl ?_
                refine wkP.sipush 156 (29791 : Int32) at_153 rfl rfl ?_
                refine wkP.imul 157 (c1 * (29791 : Int32)) at_156 rfl rfl ?_
                refine wkP.iadd 158 (((6 : Int32) * (923521 : Int32)) + (c1 * (29791 : Int32))) at_157 rfl rfl ?_
                refine wkP.aload 160 at_158 rfl rfl rfl ?_
                refine wkP.iload 162 at_160 rfl rfl ?_
                refine wkP.iconst 163 (2 : Int32) at_162 rfl rfl ?_
                refine wkP.idiv 164 (2 : Int32) at_163 (by decide) (by decide) rfl ?_
                refine wkP.caload 165 2 c2 A317_337 at_164 rfl rfl rfl ?_
                refine wkP.sipush 168 (961 : Int32) at_165 rfl rfl ?_
                refine wkP.imul 169 (c2 * (961 : Int32)) at_168 rfl rfl ?_
                refine wkP.iadd 170 ((((6 : Int32) * (923521 : Int32)) + (c1 * (29791 : Int32))) + (c2 * (961 : Int32))) at_169 rfl rfl ?_
                refine wkP.aload 172 at_170 rfl rfl rfl ?_
                refine wkP.iload 174 at_172 rfl rfl ?_
                refine wkP.iload 176 at_174 rfl rfl ?_
                refine wkP.iconst 177 (4 : Int32) at_176 rfl rfl ?_
                refine wkP.idiv 178 (1 : Int32) at_177 (by decide) (by decide) rfl ?_
                refine wkP.isub 179 (4 : Int32) at_178 (by decide) rfl ?_
                refine wkP.caload 180 4 c4 A317_337 at_179 rfl rfl rfl ?_
                refine wkP.bipush 182 (31 : Int32) at_180 rfl rfl ?_
                refine wkP.imul 183 (c4 * (31 : Int32)) at_182 rfl rfl ?_
                refine wkP.iadd 184 (((((6 : Int32) * (923521 : Int32)) + (c1 * (29791 : Int32))) + (c2 * (961 : Int32))) + (c4 * (31 : Int32))) at_183 rfl rfl ?_
                refine wkP.aload 186 at_184 rfl rfl rfl ?_
                refine wkP.iload 188 at_186 rfl rfl ?_
                refine wkP.caload 189 5 c5 A317_337 at_188 rfl rfl rfl ?_
                refine wkP.iadd 190 ((((((6 : Int32) * (923521 : Int32)) + (c1 * (29791 : Int32))) + (c2 * (961 : Int32))) + (c4 * (31 : Int32))) + c5) at_189 rfl rfl ?_
                rw [show ((((((6 : Int32) * (923521 : Int32)) + (c1 * (29791 : Int32))) + (c2 * (961 : Int32))) + (c4 * (31 : Int32))) + c5) = (((31 : Int32) * (((31 : Int32) * (((31 : Int32) * (((31 : Int32) * (6 : Int32)) + c1)) + c2)) + c4)) + c5) from by exact ring5 _ _ _ _ _]
                refine wkP.istore 192 #[.val (.int i0), .val (.long i1), .second, .val (.long i2), .second, .val (.int i3), .val (.int (6 : Int32)), .val (.ref a307), .val (.ref s), .val (.int z), .val (.int (((31 : Int32) * (((31 : Int32) * (((31 : Int32) * (((31 : Int32) * (6 : Int32)) + c1)) + c2)) + c4)) + c5)), .val (.int (5 : Int32)), .unset, .unset] at_190 rfl rfl ?_
                refine wkP.iload 194 at_192 rfl rfl ?_
                refine wkP.i2l 195 ((((31 : Int32) * (((31 : Int32) * (((31 : Int32) * (((31 : Int32) * (6 : Int32)) + c1)) + c2)) + c4)) + c5)).toInt64 at_194 rfl rfl ?_
                refine wkP.ldcL 198 (w43 g.1) at_195 rfl ?_
                refine wkP.lmul 199 (((((31 : Int32) * (((31 : Int32) * (((31 : Int32) * (((31 : Int32) * (6 : Int32)) + c1)) + c2)) + c4)) + c5)).toInt64 * (2654435769 : Int64)) at_198 rfl rfl ?_
                refine wkP.ldcL 202 (w44 g.1) at_199 rfl ?_
                refine wkP.land 203 ((((((31 : Int32) * (((31 : Int32) * (((31 : Int32) * (((31 : Int32) * (6 : Int32)) + c1)) + c2)) + c4)) + c5)).toInt64 * (2654435769 : Int64)) &&& (4294967295 : Int64)) at_202 rfl rfl ?_
                refine wkP.lstore 205 #[.val (.int i0), .val (.long i1), .second, .val (.long i2), .second, .val (.int i3), .val (.int (6 : Int32)), .val (.ref a307), .val (.ref s), .val (.int z), .val (.int (((31 : Int32) * (((31 : Int32) * (((31 : Int32) * (((31 : Int32) * (6 : Int32)) + c1)) + c2)) + c4)) + c5)), .val (.long ((((((31 : Int32) * (((31 : Int32) * (((31 : Int32) * (((31 : Int32) * (6 : Int32)) + c1)) + c2)) + c4)) + c5)).toInt64 * (2654435769 : Int64)) &&& (4294967295 : Int64))), .second, .unset] at_203 rfl rfl ?_
                refine wkP.lload 207 at_205 rfl rfl ?_
                refine wkP.bipush 209 (26 : Int32) at_207 rfl rfl ?_
                refine wkP.lushr 210 ((((((((31 : Int32) * (((31 : Int32) * (((31 : Int32) * (((31 : Int32) * (6 : Int32)) + c1)) + c2)) + c4)) + c5)).toInt64 * (2654435769 : Int64)) &&& (4294967295 : Int64))).toUInt64 >>> ((26 : Int32) &&& 0x3f).toInt64.toUInt64).toInt64 at_209 rfl rfl ?_
                refine wkP.l2i 211 z at_210 hz2 rfl ?_
                refine wkP.istore 213 #[.val (.int i0), .val (.long i1), .second, .val (.long i2), .second, .val (.int i3), .val (.int (6 : Int32)), .val (.ref a307), .val (.ref s), .val (.int z), .val (.int (((31 : Int32) * (((31 : Int32) * (((31 : Int32) * (((31 : Int32) * (6 : Int32)) + c1)) + c2)) + c4)) + c5)), .val (.long ((((((31 : Int32) * (((31 : Int32) * (((31 : Int32) * (((31 : Int32) * (6 : Int32)) + c1)) + c2)) + c4)) + c5)).toInt64 * (2654435769 : Int64)) &&& (4294967295 : Int64))), .second, .val (.int z)] at_211 rfl rfl ?_
                refine wkP.iload 215 at_213 rfl rfl ?_
                refine wkP.iload 217 at_215 rfl rfl ?_
                refine wkP.icmpF 220 at_217 (show ¬ (¬ z = z) from (fun q => q rfl)) rfl ?_
                refine wkP.iload 222 at_220 rfl rfl ?_
                refine wkP.ifF 225 at_222 (show ¬ (z < (0 : Int32)) from hz3) rfl ?_
                refine wkP.iload 227 at_225 rfl rfl ?_
                refine wkP.bipush 229 (64 : Int32) at_227 rfl rfl ?_
                refine wkP.icmpF 232 at_229 (show ¬ (¬ z < (64 : Int32)) from (fun q => q hz4)) rfl ?_
                refine wkP.iconst 233 (1 : Int32) at_232 rfl rfl ?_
                refine wkP.goto 237 at_233 (by decide) (by decide) ?_
                exact wkP.retI .boolean [] g.2.1 at_237 rfl (by simp) rfl (by decide) (by decide) (by simp) rfl
              · skip
                by_cases hn_7 : n = 7
                · subst hn_7
                  refine wkP.callS 117 (M_text7 l Z a0 g _ a307 c0 c1 c2 c3 c4 c5 c6 c7 c8 c9 A317 hk) [(.ref a307), (.int (7 : Int32))] [] 0 g.2.1 (w2 g.1) (w3 g.1) (w4 g.1) (w5 g.1) (by decide) at_114 (lenOf pd17 rfl) rfl rfl rfl (by simp) (Nat.le_of_eq rfl) (by decide) (by decide) (by decide) (by decide) rfl ?_
                  rintro v338 h338 o338 ⟨s, t, rfl, rfl, H⟩ K338
                  have z338 := K338.1
                  refine wkP.astore 119 #[.val (.int i0), .val (.long i1), .second, .val (.long i2), .second, .val (.int i3), .val (.int (7 : Int32)), .val (.ref a307), .val (.ref s), .unset, .unset, .unset, .unset, .unset] at_117 rfl rfl rfl ?_
                  refine wkP.aload 121 at_119 rfl rfl rfl ?_
                  obtain ⟨z, hz1, hz2, hz3, hz4⟩ := top6 (((31 : Int32) * (((31 : Int32) * (((31 : Int32) * (((31 : Int32) * (7 : Int32)) + c1)) + c3)) + c5)) + c6)
                  refine wkP.callS 124 (M_slot7 l Z a0 g _ s t c0 c1 c2 c3 c4 c5 c6 c7 c8 c9 H) [(.ref s)] [] 0 g.2.1 (w27 g.1) (w28 g.1) (w29 g.1) (w30 g.1) (by decide) at_121 (lenOf pd18 rfl) rfl rfl rfl (by simp) (Nat.le_of_eq rfl) (by decide) (by decide) (by decide) (by decide) rfl ?_
                  rintro v339 _ o339 ⟨rfl, rfl, rfl⟩ K339
                  rw [hz1]
                  refine wkP.istore 126 #[.val (.int i0), .val (.long i1), .second, .val (.long i2), .second, .val (.int i3), .val (.int (7 : Int32)), .val (.ref a307), .val (.ref s), .val (.int z), .unset, .unset, .unset, .unset] at_124 rfl rfl ?_
                  refine wkP.iload 128 at_126 rfl rfl ?_
                  refine wkP.istore 130 #[.val (.int i0), .val (.long i1), .second, .val (.long i2), .second, .val (.int i3), .val (.int (7 : Int32)), .val (.ref a307), .val (.ref s), .val (.int z), .val (.int (7 : Int32)), .unset, .unset, .unset] at_128 rfl rfl ?_
                  refine wkP.iload 132 at_130 rfl rfl ?_
                  refine wkP.ifF 135 at_132 (show ¬ (¬ (0 : Int32) < (7 : Int32)) from (by decide)) rfl ?_
                  refine wkP.iload 137 at_135 rfl rfl ?_
                  refine wkP.iconst 138 (1 : Int32) at_137 rfl rfl ?_
                  refine wkP.isub 139 (6 : Int32) at_138 (by decide) rfl ?_
                  refine wkP.istore 141 #[.val (.int i0), .val (.long i1), .second, .val (.long i2), .second, .val (.int i3), .val (.int (7 : Int32)), .val (.ref a307), .val (.ref s), .val (.int z), .val (.int (7 : Int32)), .val (.int (6 : Int32)), .unset, .unset] at_139 rfl rfl ?_
                  refine wkP.iload 143 at_141 rfl rfl ?_
                  refine wkP.ldcI 145 (w101 g.1) at_143 rfl ?_
                  refine wkP.imul 146 ((7 : Int32) * (923521 : Int32)) at_145 rfl rfl ?_
                  refine wkP.aload 148 at_146 rfl rfl rfl ?_
                  refine wkP.iload 150 at_148 rfl rfl ?_
                  refine wkP.iconst 151 (4 : Int32) at_150 rfl rfl ?_
                  refine wkP.idiv 152 (1 : Int32) at_151 (by decide) (by decide) rfl ?_
                  have A317_340 := (A317.keep K338 nn0)
                  refine wkP.caload 153 1 c1 A317_340 at_152 rfl rfl rfl ?_
                  refine wkP.sipush 156 (29791 : Int32) at_153 rfl rfl ?_
                  refine wkP.imul 157 (c1 * (29791 : Int32)) at_156 rfl rfl ?_
                  refine wkP.iadd 158 (((7 : Int32) * (923521 : Int32)) + (c1 * (29791 : Int32))) at_157 rfl rfl ?_
                  refine wkP.aload 160 at_158 rfl rfl rfl ?_
                  refine wkP.iload 162 at_160 rfl rfl ?_
                  refine wkP.iconst 163 (2 : Int32) at_162 rfl rfl ?_
                  refine wkP.idiv 164 (3 : Int32) at_163 (by decide) (by decide) rfl ?_
                  refine wkP.caload 165 3 c3 A317_340 at_164 rfl rfl rfl ?_
                  refine wkP.sipush 168 (961 : Int32) at_165 rfl rfl ?_
                  refine wkP.imul 169 (c3 * (961 : Int32)) at_168 rfl rfl ?_
                  refine wkP.iadd 170 ((((7 : Int32) * (923521 : Int32)) + (c1 * (29791 : Int32))) + (c3 * (961 : Int32))) at_169 rfl rfl ?_
                  refine wkP.aload 172 at_170 rfl rfl rfl ?_
                  refine wkP.iload 174 at_172 rfl rfl ?_
                  refine wkP.iload 176 at_174 rfl rfl ?_
                  refine wkP.iconst 177 (4 : Int32) at_176 rfl rfl ?_
                  refine wkP.idiv 178 (1 : Int32) at_177 (by decide) (by decide) rfl ?_
                  refine wkP.isub 179 (5 : Int32) at_178 (by decide) rfl ?_
                  refine wkP.caload 180 5 c5 A317_340 at_179 rfl rfl rfl ?_
                  refine wkP.bipush 182 (31 : Int32) at_180 rfl rfl ?_
                  refine wkP.imul 183 (c5 * (31 : Int32)) at_182 rfl rfl ?_
                  refine wkP.iadd 184 (((((7 : Int32) * (923521 : Int32)) + (c1 * (29791 : Int32))) + (c3 * (961 : Int32))) + (c5 * (31 : Int32))) at_183 rfl rfl ?_
                  refine wkP.aload 186 at_184 rfl rfl rfl ?_
                  refine wkP.iload 188 at_186 rfl rfl ?_
                  refine wkP.caload 189 6 c6 A317_340 at_188 rfl rfl rfl ?_
                  refine wkP.iadd 190 ((((((7 : Int32) * (923521 : Int32)) + (c1 * (29791 : Int32))) + (c3 * (961 : Int32))) + (c5 * (31 : Int32))) + c6) at_189 rfl rfl ?_
                  rw [show ((((((7 : Int32) * (923521 : Int32)) + (c1 * (29791 : Int32))) + (c3 * (961 : Int32))) + (c5 * (31 : Int32))) + c6) = (((31 : Int32) * (((31 : Int32) * (((31 : Int32) * (((31 : Int32) * (7 : Int32)) + c1)) + c3)) + c5)) + c6) from by exact ring5 _ _ _ _ _]
                  refine wkP.istore 192 #[.val (.int i0), .val (.long i1), .second, .val (.long i2), .second, .val (.int i3), .val (.int (7 : Int32)), .val (.ref a307), .val (.ref s), .val (.int z), .val (.int (((31 : Int32) * (((31 : Int32) * (((31 : Int32) * (((31 : Int32) * (7 : Int32)) + c1)) + c3)) + c5)) + c6)), .val (.int (6 : Int32)), .unset, .unset] at_190 rfl rfl ?_
                  refine wkP.iload 194 at_192 rfl rfl ?_
                  refine wkP.i2l 195 ((((31 : Int32) * (((31 : Int32) * (((31 : Int32) * (((31 : Int32) * (7 : Int32)) + c1)) + c3)) + c5)) + c6)).toInt64 at_194 rfl rfl ?_
                  refine wkP.ldcL 198 (w43 g.1) at_195 rfl ?_
                  refine wkP.lmul 199 (((((31 : Int32) * (((31 : Int32) * (((31 : Int32) * (((31 : Int32) * (7 : Int32)) + c1)) + c3)) + c5)) + c6)).toInt64 * (2654435769 : Int64)) at_198 rfl rfl ?_
                  refine wkP.ldcL 202 (w44 g.1) at_199 rfl ?_
                  refine wkP.land 203 ((((((31 : Int32) * (((31 : Int32) * (((31 : Int32) * (((31 : Int32) * (7 : Int32)) + c1)) + c3)) + c5)) + c6)).toInt64 * (2654435769 : Int64)) &&& (4294967295 : Int64)) at_202 rfl rfl ?_
                  refine wkP.lstore 205 #[.val (.int i0), .val (.long i1), .second, .val (.long i2), .second, .val (.int i3), .val (.int (7 : Int32)), .val (.ref a307), .val (.ref s), .val (.int z), .val (.int (((31 : Int32) * (((31 : Int32) * (((31 : Int32) * (((31 : Int32) * (7 : Int32)) + c1)) + c3)) + c5)) + c6)), .val (.long ((((((31 : Int32) * (((31 : Int32) * (((31 : Int32) * (((31 : Int32) * (7 : Int32)) + c1)) + c3)) + c5)) + c6)).toInt64 * (2654435769 : Int64)) &&& (4294967295 : Int64))), .second, .unset] at_203 rfl rfl ?_
                  refine wkP.lload 207 at_205 rfl rfl ?_
                  refine wkP.bipush 209 (26 : Int32) at_207 rfl rfl ?_
                  refine wkP.lushr 210 ((((((((31 : Int32) * (((31 : Int32) * (((31 : Int32) * (((31 : Int32) * (7 : Int32)) + c1)) + c3)) + c5)) + c6)).toInt64 * (2654435769 : Int64)) &&& (4294967295 : Int64))).toUInt64 >>> ((26 : Int32) &&& 0x3f).toInt64.toUInt64).toInt64 at_209 rfl rfl ?_
                  refine wkP.l2i 211 z at_210 hz2 rfl ?_
                  refine wkP.istore 213 #[.val (.int i0), .val (.long i1), .second, .val (.long i2), .second, .val (.int i3), .val (.int (7 : Int32)), .val (.ref a307), .val (.ref s), .val (.int z), .val (.int (((31 : Int32) * (((31 : Int32) * (((31 : Int32) * (((31 : Int32) * (7 : Int32)) + c1)) + c3)) + c5)) + c6)), .val (.long ((((((31 : Int32) * (((31 : Int32) * (((31 : Int32) * (((31 : Int32) * (7 : Int32)) + c1)) + c3)) + c5)) + c6)).toInt64 * (2654435769 : Int64)) &&& (4294967295 : Int64))), .second, .val (.int z)] at_211 rfl rfl ?_
                  refine wkP.iload 215 at_213 rfl rfl ?_
                  refine wkP.iload 217 at_215 rfl rfl ?_
                  refine wkP.icmpF 220 at_217 (show ¬ (¬ z = z) from (fun q => q rfl)) rfl ?_
                  refine wkP.iload 222 at_220 rfl rfl ?_
                  refine wkP.ifF 225 at_222 (show ¬ (z < (0 : Int32)) from hz3) rfl ?_
                  refine wkP.iload 227 at_225 rfl rfl ?_
                  refine wkP.bipush 229 (64 : Int32) at_227 rfl rfl ?_
                  refine wkP.icmpF 232 at_229 (show ¬ (¬ z < (64 : Int32)) from (fun q => q hz4)) rfl ?_
                  refine wkP.iconst 233 (1 : Int32) at_232 rfl rfl ?_
                  refine wkP.goto 237 at_233 (by decide) (by decide) ?_
                  exact wkP.retI .boolean [] g.2.1 at_237 rfl (by simp) rfl (by decide) (by decide) (by simp) rfl
                · skip
                  by_cases hn_8 : n = 8
                  · subst hn_8
                    refine wkP.callS 117 (M_text8 l Z a0 g _ a307 c0 c1 c2 c3 c4 c5 c6 c7 c8 c9 A317 hk) [(.ref a307), (.int (8 : Int32))] [] 0 g.2.1 (w2 g.1) (w3 g.1) (w4 g.1) (w5 g.1) (by decide) at_114 (lenOf pd17 rfl) rfl rfl rfl (by simp) (Nat.le_of_eq rfl) (by decide) (by decide) (by decide) (by decide) rfl ?_
                    rintro v341 h341 o341 ⟨s, t, rfl, rfl, H⟩ K341
                    have z341 := K341.1
                    refine wkP.astore 119 #[.val (.int i0), .val (.long i1), .second, .val (.long i2), .second, .val (.int i3), .val (.int (8 : Int32)), .val (.ref a307), .val (.ref s), .unset, .unset, .unset, .unset, .unset] at_117 rfl rfl rfl ?_
                    refine wkP.aload 121 at_119 rfl rfl rfl ?_
                    obtain ⟨z, hz1, hz2, hz3, hz4⟩ := top6 (((31 : Int32) * (((31 : Int32) * (((31 : Int32) * (((31 : Int32) * (8 : Int32)) + c1)) + c3)) + c6)) + c7)
                    refine wkP.callS 124 (M_slot8 l Z a0 g _ s t c0 c1 c2 c3 c4 c5 c6 c7 c8 c9 H) [(.ref s)] [] 0 g.2.1 (w27 g.1) (w28 g.1) (w29 g.1) (w30 g.1) (by decide) at_121 (lenOf pd18 rfl) rfl rfl rfl (by simp) (Nat.le_of_eq rfl) (by decide) (by decide) (by decide) (by decide) rfl ?_
                    rintro v342 _ o342 ⟨rfl, rfl, rfl⟩ K342
                    rw [hz1]
                    refine wkP.istore 126 #[.val (.int i0), .val (.long i1), .second, .val (.long i2), .second, .val (.int i3), .val (.int (8 : Int32)), .val (.ref a307), .val (.ref s), .val (.int z), .unset, .unset, .unset, .unset] at_124 rfl rfl ?_
                    refine wkP.iload 128 at_126 rfl rfl ?_
                    refine wkP.istore 130 #[.val (.int i0), .val (.long i1), .second, .val (.long i2), .second, .val (.int i3), .val (.int (8 : Int32)), .val (.ref a307), .val (.ref s), .val (.int z), .val (.int (8 : Int32)), .unset, .unset, .unset] at_128 rfl rfl ?_
                    refine wkP.iload 132 at_130 rfl rfl ?_
                    refine wkP.ifF 135 at_132 (show ¬ (¬ (0 : Int32) < (8 : Int32)) from (by decide)) rfl ?_
                    refine wkP.iload 137 at_135 rfl rfl ?_
                    refine wkP.iconst 138 (1 : Int32) at_137 rfl rfl ?_
                    refine wkP.isub 139 (7 : Int32) at_138 (by decide) rfl ?_
                    refine wkP.istore 141 #[.val (.int i0), .val (.long i1), .second, .val (.long i2), .second, .val (.int i3), .val (.int (8 : Int32)), .val (.ref a307), .val (.ref s), .val (.int z), .val (.int (8 : Int32)), .val (.int (7 : Int32)), .unset, .unset] at_139 rfl rfl ?_
                    refine wkP.iload 143 at_141 rfl rfl ?_
                    refine wkP.ldcI 145 (w101 g.1) at_143 rfl ?_
                    refine wkP.imul 146 ((8 : Int32) * (923521 : Int32)) at_145 rfl rfl ?_
                    refine wkP.aload 148 at_146 rfl rfl rfl ?_
                    refine wkP.iload 150 at_148 rfl rfl ?_
                    refine wkP.iconst 151 (4 : Int32) at_150 rfl rfl ?_
                    refine wkP.idiv 152 (1 : Int32) at_151 (by decide) (by decide) rfl ?_
                    have A317_343 := (A317.keep K341 nn0)
                    refine wkP.caload 153 1 c1 A317_343 at_152 rfl rfl rfl ?_
                    refine wkP.sipush 156 (29791 : Int32) at_153 rfl rfl ?_
                    refine wkP.imul 157 (c1 * (29791 : Int32)) at_156 rfl rfl ?_
                    refine wkP.iadd 158 (((8 : Int32) * (923521 : Int32)) + (c1 * (29791 : Int32))) at_157 rfl rfl ?_
                    refine wkP.aload 160 at_158 rfl rfl rfl ?_
                    refine wkP.iload 162 at_160 rfl rfl ?_
                    refine wkP.iconst 163 (2 : Int32) at_162 rfl rfl ?_
                    refine wkP.idiv 164 (3 : Int32) at_163 (by decide) (by decide) rfl ?_
                    refine wkP.caload 165 3 c3 A317_343 at_164 rfl rfl rfl ?_
                    refine wkP.sipush 168 (961 : Int32) at_165 rfl rfl ?_
                    refine wkP.imul 169 (c3 * (961 : Int32)) at_168 rfl rfl ?_
                    refine wkP.iadd 170 ((((8 : Int32) * (923521 : Int32)) + (c1 * (29791 : Int32))) + (c3 * (961 : Int32))) at_169 rfl rfl ?_
                    refine wkP.aload 172 at_170 rfl rfl rfl ?_
                    refine wkP.iload 174 at_172 rfl rfl ?_
                    refine wkP.iload 176 at_174 rfl rfl ?_
                    refine wkP.iconst 177 (4 : Int32) at_176 rfl rfl ?_
                    refine wkP.idiv 178 (1 : Int32) at_177 (by decide) (by decide) rfl ?_
                    refine wkP.isub 179 (6 : Int32) at_178 (by decide) rfl ?_
                    refine wkP.caload 180 6 c6 A317_343 at_179 rfl rfl rfl ?_
                    refine wkP.bipush 182 (31 : Int32) at_180 rfl rfl ?_
                    refine wkP.imul 183 (c6 * (31 : Int32)) at_182 rfl rfl ?_
                    refine wkP.iadd 184 (((((8 : Int32) * (923521 : Int32)) + (c1 * (29791 : Int32))) + (c3 * (961 : Int32))) + (c6 * (31 : Int32))) at_183 rfl rfl ?_
                    refine wkP.aload 186 at_184 rfl rfl rfl ?_
                    refine wkP.iload 188 at_186 rfl rfl ?_
                    refine wkP.caload 189 7 c7 A317_343 at_188 rfl rfl rfl ?_
                    refine wkP.iadd 190 ((((((8 : Int32) * (923521 : Int32)) + (c1 * (29791 : Int32))) + (c3 * (961 : Int32))) + (c6 * (31 : Int32))) + c7) at_189 rfl rfl ?_
                    rw [show ((((((8 : Int32) * (923521 : Int32)) + (c1 * (29791 : Int32))) + (c3 * (961 : Int32))) + (c6 * (31 : Int32))) + c7) = (((31 : Int32) * (((31 : Int32) * (((31 : Int32) * (((31 : Int32) * (8 : Int32)) + c1)) + c3)) + c6)) + c7) from by exact ring5 _ _ _ _ _]
                    refine wkP.istore 192 #[.val (.int i0), .val (.long i1), .second, .val (.long i2), .second, .val (.int i3), .val (.int (8 : Int32)), .val (.ref a307), .val (.ref s), .val (.int z), .val (.int (((31 : Int32) * (((31 : Int32) * (((31 : Int32) * (((31 : Int32) * (8 : Int32)) + c1)) + c3)) + c6)) + c7)), .val (.int (7 : Int32)), .unset, .unset] at_190 rfl rfl ?_
                    refine wkP.iload 194 at_192 rfl rfl ?_
                    refine wkP.i2l 195 ((((31 : Int32) * (((31 : Int32) * (((31 : Int32) * (((31 : Int32) * (8 : Int32)) + c1)) + c3)) + c6)) + c7)).toInt64 at_194 rfl rfl ?_
                    refine wkP.ldcL 198 (w43 g.1) at_195 rfl ?_
                    refine wkP.lmul 199 (((((31 : Int32) * (((31 : Int32) * (((31 : Int32) * (((31 : Int32) * (8 : Int32)) + c1)) + c3)) + c6)) + c7)).toInt64 * (2654435769 : Int64)) at_198 rfl rfl ?_
                    refine wkP.ldcL 202 (w44 g.1) at_199 rfl ?_
                    refine wkP.land 203 ((((((31 : Int32) * (((31 : Int32) * (((31 : Int32) * (((31 : Int32) * (8 : Int32)) + c1)) + c3)) + c6)) + c7)).toInt64 * (2654435769 : Int64)) &&& (4294967295 : Int64)) at_202 rfl rfl ?_
                    refine wkP.lstore 205 #[.val (.int i0), .val (.long i1), .second, .val (.long i2), .second, .val (.int i3), .val (.int (8 : Int32)), .val (.ref a307), .val (.ref s), .val (.int z), .val (.int (((31 : Int32) * (((31 : Int32) * (((31 : Int32) * (((31 : Int32) * (8 : Int32)) + c1)) + c3)) + c6)) + c7)), .val (.long ((((((31 : Int32) * (((31 : Int32) * (((31 : Int32) * (((31 : Int32) * (8 : Int32)) + c1)) + c3)) + c6)) + c7)).toInt64 * (2654435769 : Int64)) &&& (4294967295 : Int64))), .second, .unset] at_203 rfl rfl ?_
                    refine wkP.lload 207 at_205 rfl rfl ?_
                    refine wkP.bipush 209 (26 : Int32) at_207 rfl rfl ?_
                    refine wkP.lushr 210 ((((((((31 : Int32) * (((31 : Int32) * (((31 : Int32) * (((31 : Int32) * (8 : Int32)) + c1)) + c3)) + c6)) + c7)).toInt64 * (2654435769 : Int64)) &&& (4294967295 : Int64))).toUInt64 >>> ((26 : Int32) &&& 0x3f).toInt64.toUInt64).toInt64 at_209 rfl rfl ?_
                    refine wkP.l2i 211 z at_210 hz2 rfl ?_
                    refine wkP.istore 213 #[.val (.int i0), .val (.long i1), .second, .val (.long i2), .second, .val (.int i3), .val (.int (8 : Int32)), .val (.ref a307), .val (.ref s), .val (.int z), .val (.int (((31 : Int32) * (((31 : Int32) * (((31 : Int32) * (((31 : Int32) * (8 : Int32)) + c1)) + c3)) + c6)) + c7)), .val (.long ((((((31 : Int32) * (((31 : Int32) * (((31 : Int32) * (((31 : Int32) * (8 : Int32)) + c1)) + c3)) + c6)) + c7)).toInt64 * (2654435769 : Int64)) &&& (4294967295 : Int64))), .second, .val (.int z)] at_211 rfl rfl ?_
                    refine wkP.iload 215 at_213 rfl rfl ?_
                    refine wkP.iload 217 at_215 rfl rfl ?_
                    refine wkP.icmpF 220 at_217 (show ¬ (¬ z = z) from (fun q => q rfl)) rfl ?_
                    refine wkP.iload 222 at_220 rfl rfl ?_
                    refine wkP.ifF 225 at_222 (show ¬ (z < (0 : Int32)) from hz3) rfl ?_
                    refine wkP.iload 227 at_225 rfl rfl ?_
                    refine wkP.bipush 229 (64 : Int32) at_227 rfl rfl ?_
                    refine wkP.icmpF 232 at_229 (show ¬ (¬ z < (64 : Int32)) from (fun q => q hz4)) rfl ?_
                    refine wkP.iconst 233 (1 : Int32) at_232 rfl rfl ?_
                    refine wkP.goto 237 at_233 (by decide) (by decide) ?_
                    exact wkP.retI .boolean [] g.2.1 at_237 rfl (by simp) rfl (by decide) (by decide) (by simp) rfl
                  · skip
                    by_cases hn_9 : n = 9
                    · subst hn_9
                      refine wkP.callS 117 (M_text9 l Z a0 g _ a307 c0 c1 c2 c3 c4 c5 c6 c7 c8 c9 A317 hk) [(.ref a307), (.int (9 : Int32))] [] 0 g.2.1 (w2 g.1) (w3 g.1) (w4 g.1) (w5 g.1) (by decide) at_114 (lenOf pd17 rfl) rfl rfl rfl (by simp) (Nat.le_of_eq rfl) (by decide) (by decide) (by decide) (by decide) rfl ?_
                      rintro v344 h344 o344 ⟨s, t, rfl, rfl, H⟩ K344
                      have z344 := K344.1
                      refine wkP.astore 119 #[.val (.int i0), .val (.long i1), .second, .val (.long i2), .second, .val (.int i3), .val (.int (9 : Int32)), .val (.ref a307), .val (.ref s), .unset, .unset, .unset, .unset, .unset] at_117 rfl rfl rfl ?_
                      refine wkP.aload 121 at_119 rfl rfl rfl ?_
                      obtain ⟨z, hz1, hz2, hz3, hz4⟩ := top6 (((31 : Int32) * (((31 : Int32) * (((31 : Int32) * (((31 : Int32) * (9 : Int32)) + c2)) + c4)) + c6)) + c8)
                      refine wkP.callS 124 (M_slot9 l Z a0 g _ s t c0 c1 c2 c3 c4 c5 c6 c7 c8 c9 H) [(.ref s)] [] 0 g.2.1 (w27 g.1) (w28 g.1) (w29 g.1) (w30 g.1) (by decide) at_121 (lenOf pd18 rfl) rfl rfl rfl (by simp) (Nat.le_of_eq rfl) (by decide) (by decide) (by decide) (by decide) rfl ?_
                      rintro v345 _ o345 ⟨rfl, rfl, rfl⟩ K345
                      rw [hz1]
                      refine wkP.istore 126 #[.val (.int i0), .val (.long i1), .second, .val (.long i2), .second, .val (.int i3), .val (.int (9 : Int32)), .val (.ref a307), .val (.ref s), .val (.int z), .unset, .unset, .unset, .unset] at_124 rfl rfl ?_
                      refine wkP.iload 128 at_126 rfl rfl ?_
                      refine wkP.istore 130 #[.val (.int i0), .val (.long i1), .second, .val (.long i2), .second, .val (.int i3), .val (.int (9 : Int32)), .val (.ref a307), .val (.ref s), .val (.int z), .val (.int (9 : Int32)), .unset, .unset, .unset] at_128 rfl rfl ?_
                      refine wkP.iload 132 at_130 rfl rfl ?_
                      refine wkP.ifF 135 at_132 (show ¬ (¬ (0 : Int32) < (9 : Int32)) from (by decide)) rfl ?_
                      refine wkP.iload 137 at_135 rfl rfl ?_
                      refine wkP.iconst 138 (1 : Int32) at_137 rfl rfl ?_
                      refine wkP.isub 139 (8 : Int32) at_138 (by decide) rfl ?_
                      refine wkP.istore 141 #[.val (.int i0), .val (.long i1), .second, .val (.long i2), .second, .val (.int i3), .val (.int (9 : Int32)), .val (.ref a307), .val (.ref s), .val (.int z), .val (.int (9 : Int32)), .val (.int (8 : Int32)), .unset, .unset] at_139 rfl rfl ?_
                      refine wkP.iload 143 at_141 rfl rfl ?_
                      refine wkP.ldcI 145 (w101 g.1) at_143 rfl ?_
                      refine wkP.imul 146 ((9 : Int32) * (923521 : Int32)) at_145 rfl rfl ?_
                      refine wkP.aload 148 at_146 rfl rfl rfl ?_
                      refine wkP.iload 150 at_148 rfl rfl ?_
                      refine wkP.iconst 151 (4 : Int32) at_150 rfl rfl ?_
                      refine wkP.idiv 152 (2 : Int32) at_151 (by decide) (by decide) rfl ?_
                      have A317_346 := (A317.keep K344 nn0)
                      refine wkP.caload 153 2 c2 A317_346 at_152 rfl rfl rfl ?_
                      refine wkP.sipush 156 (29791 : Int32) at_153 rfl rfl ?_
                      refine wkP.imul 157 (c2 * (29791 : Int32)) at_156 rfl rfl ?_
                      refine wkP.iadd 158 (((9 : Int32) * (923521 : Int32)) + (c2 * (29791 : Int32))) at_157 rfl rfl ?_
                      refine wkP.aload 160 at_158 rfl rfl rfl ?_
                      refine wkP.iload 162 at_160 rfl rfl ?_
                      refine wkP.iconst 163 (2 : Int32) at_162 rfl rfl ?_
                      refine wkP.idiv 164 (4 : Int32) at_163 (by decide) (by decide) rfl ?_
                      refine wkP.caload 165 4 c4 A317_346 at_164 rfl rfl rfl ?_
                      refine wkP.sipush 168 (961 : Int32) at_165 rfl rfl ?_
                      refine wkP.imul 169 (c4 * (961 : Int32)) at_168 rfl rfl ?_
                      refine wkP.iadd 170 ((((9 : Int32) * (923521 : Int32)) + (c2 * (29791 : Int32))) + (c4 * (961 : Int32))) at_169 rfl rfl ?_
                      refine wkP.aload 172 at_170 rfl rfl rfl ?_
                      refine wkP.iload 174 at_172 rfl rfl ?_
                      refine wkP.iload 176 at_174 rfl rfl ?_
                      refine wkP.iconst 177 (4 : Int32) at_176 rfl rfl ?_
                      refine wkP.idiv 178 (2 : Int32) at_177 (by decide) (by decide) rfl ?_
                      refine wkP.isub 179 (6 : Int32) at_178 (by decide) rfl ?_
                      refine wkP.caload 180 6 c6 A317_346 at_179 rfl rfl rfl ?_
                      refine wkP.bipush 182 (31 : Int32) at_180 rfl rfl ?_
                      refine wkP.imul 183 (c6 * (31 : Int32)) at_182 rfl rfl ?_
                      refine wkP.iadd 184 (((((9 : Int32) * (923521 : Int32)) + (c2 * (29791 : Int32))) + (c4 * (961 : Int32))) + (c6 * (31 : Int32))) at_183 rfl rfl ?_
                      refine wkP.aload 186 at_184 rfl rfl rfl ?_
                      refine wkP.iload 188 at_186 rfl rfl ?_
                      refine wkP.caload 189 8 c8 A317_346 at_188 rfl rfl rfl ?_
                      refine wkP.iadd 190 ((((((9 : Int32) * (923521 : Int32)) + (c2 * (29791 : Int32))) + (c4 * (961 : Int32))) + (c6 * (31 : Int32))) + c8) at_189 rfl rfl ?_
                      rw [show ((((((9 : Int32) * (923521 : Int32)) + (c2 * (29791 : Int32))) + (c4 * (961 : Int32))) + (c6 * (31 : Int32))) + c8) = (((31 : Int32) * (((31 : Int32) * (((31 : Int32) * (((31 : Int32) * (9 : Int32)) + c2)) + c4)) + c6)) + c8) from by exact ring5 _ _ _ _ _]
                      refine wkP.istore 192 #[.val (.int i0), .val (.long i1), .second, .val (.long i2), .second, .val (.int i3), .val (.int (9 : Int32)), .val (.ref a307), .val (.ref s), .val (.int z), .val (.int (((31 : Int32) * (((31 : Int32) * (((31 : Int32) * (((31 : Int32) * (9 : Int32)) + c2)) + c4)) + c6)) + c8)), .val (.int (8 : Int32)), .unset, .unset] at_190 rfl rfl ?_
                      refine wkP.iload 194 at_192 rfl rfl ?_
                      refine wkP.i2l 195 ((((31 : Int32) * (((31 : Int32) * (((31 : Int32) * (((31 : Int32) * (9 : Int32)) + c2)) + c4)) + c6)) + c8)).toInt64 at_194 rfl rfl ?_
                      refine wkP.ldcL 198 (w43 g.1) at_195 rfl ?_
                      refine wkP.lmul 199 (((((31 : Int32) * (((31 : Int32) * (((31 : Int32) * (((31 : Int32) * (9 : Int32)) + c2)) + c4)) + c6)) + c8)).toInt64 * (2654435769 : Int64)) at_198 rfl rfl ?_
                      refine wkP.ldcL 202 (w44 g.1) at_199 rfl ?_
                      refine wkP.land 203 ((((((31 : Int32) * (((31 : Int32) * (((31 : Int32) * (((31 : Int32) * (9 : Int32)) + c2)) + c4)) + c6)) + c8)).toInt64 * (2654435769 : Int64)) &&& (4294967295 : Int64)) at_202 rfl rfl ?_
                      refine wkP.lstore 205 #[.val (.int i0), .val (.long i1), .second, .val (.long i2), .second, .val (.int i3), .val (.int (9 : Int32)), .val (.ref a307), .val (.ref s), .val (.int z), .val (.int (((31 : Int32) * (((31 : Int32) * (((31 : Int32) * (((31 : Int32) * (9 : Int32)) + c2)) + c4)) + c6)) + c8)), .val (.long ((((((31 : Int32) * (((31 : Int32) * (((31 : Int32) * (((31 : Int32) * (9 : Int32)) + c2)) + c4)) + c6)) + c8)).toInt64 * (2654435769 : Int64)) &&& (4294967295 : Int64))), .second, .unset] at_203 rfl rfl ?_
                      refine wkP.lload 207 at_205 rfl rfl ?_
                      refine wkP.bipush 209 (26 : Int32) at_207 rfl rfl ?_
                      refine wkP.lushr 210 ((((((((31 : Int32) * (((31 : Int32) * (((31 : Int32) * (((31 : Int32) * (9 : Int32)) + c2)) + c4)) + c6)) + c8)).toInt64 * (2654435769 : Int64)) &&& (4294967295 : Int64))).toUInt64 >>> ((26 : Int32) &&& 0x3f).toInt64.toUInt64).toInt64 at_209 rfl rfl ?_
                      refine wkP.l2i 211 z at_210 hz2 rfl ?_
                      refine wkP.istore 213 #[.val (.int i0), .val (.long i1), .second, .val (.long i2), .second, .val (.int i3), .val (.int (9 : Int32)), .val (.ref a307), .val (.ref s), .val (.int z), .val (.int (((31 : Int32) * (((31 : Int32) * (((31 : Int32) * (((31 : Int32) * (9 : Int32)) + c2)) + c4)) + c6)) + c8)), .val (.long ((((((31 : Int32) * (((31 : Int32) * (((31 : Int32) * (((31 : Int32) * (9 : Int32)) + c2)) + c4)) + c6)) + c8)).toInt64 * (2654435769 : Int64)) &&& (4294967295 : Int64))), .second, .val (.int z)] at_211 rfl rfl ?_
                      refine wkP.iload 215 at_213 rfl rfl ?_
                      refine wkP.iload 217 at_215 rfl rfl ?_
                      refine wkP.icmpF 220 at_217 (show ¬ (¬ z = z) from (fun q => q rfl)) rfl ?_
                      refine wkP.iload 222 at_220 rfl rfl ?_
                      refine wkP.ifF 225 at_222 (show ¬ (z < (0 : Int32)) from hz3) rfl ?_
                      refine wkP.iload 227 at_225 rfl rfl ?_
                      refine wkP.bipush 229 (64 : Int32) at_227 rfl rfl ?_
                      refine wkP.icmpF 232 at_229 (show ¬ (¬ z < (64 : Int32)) from (fun q => q hz4)) rfl ?_
                      refine wkP.iconst 233 (1 : Int32) at_232 rfl rfl ?_
                      refine wkP.goto 237 at_233 (by decide) (by decide) ?_
                      exact wkP.retI .boolean [] g.2.1 at_237 rfl (by simp) rfl (by decide) (by decide) (by simp) rfl
                    · skip
                      obtain rfl : n = 10 := by
                        rw [← Int32.toInt_inj] at *
                        simp only [Int32.reduceToInt] at *; omega
                      refine wkP.callS 117 (M_text10 l Z a0 g _ a307 c0 c1 c2 c3 c4 c5 c6 c7 c8 c9 A317 hk) [(.ref a307), (.int (10 : Int32))] [] 0 g.2.1 (w2 g.1) (w3 g.1) (w4 g.1) (w5 g.1) (by decide) at_114 (lenOf pd17 rfl) rfl rfl rfl (by simp) (Nat.le_of_eq rfl) (by decide) (by decide) (by decide) (by decide) rfl ?_
                      rintro v347 h347 o347 ⟨s, t, rfl, rfl, H⟩ K347
                      have z347 := K347.1
                      refine wkP.astore 119 #[.val (.int i0), .val (.long i1), .second, .val (.long i2), .second, .val (.int i3), .val (.int (10 : Int32)), .val (.ref a307), .val (.ref s), .unset, .unset, .unset, .unset, .unset] at_117 rfl rfl rfl ?_
                      refine wkP.aload 121 at_119 rfl rfl rfl ?_
                      obtain ⟨z, hz1, hz2, hz3, hz4⟩ := top6 (((31 : Int32) * (((31 : Int32) * (((31 : Int32) * (((31 : Int32) * (10 : Int32)) + c2)) + c4)) + c7)) + c9)
                      refine wkP.callS 124 (M_slot10 l Z a0 g _ s t c0 c1 c2 c3 c4 c5 c6 c7 c8 c9 H) [(.ref s)] [] 0 g.2.1 (w27 g.1) (w28 g.1) (w29 g.1) (w30 g.1) (by decide) at_121 (lenOf pd18 rfl) rfl rfl rfl (by simp) (Nat.le_of_eq rfl) (by decide) (by decide) (by decide) (by decide) rfl ?_
                      rintro v348 _ o348 ⟨rfl, rfl, rfl⟩ K348
                      rw [hz1]
                      refine wkP.istore 126 #[.val (.int i0), .val (.long i1), .second, .val (.long i2), .second, .val (.int i3), .val (.int (10 : Int32)), .val (.ref a307), .val (.ref s), .val (.int z), .unset, .unset, .unset, .unset] at_124 rfl rfl ?_
                      refine wkP.iload 128 at_126 rfl rfl ?_
                      refine wkP.istore 130 #[.val (.int i0), .val (.long i1), .second, .val (.long i2), .second, .val (.int i3), .val (.int (10 : Int32)), .val (.ref a307), .val (.ref s), .val (.int z), .val (.int (10 : Int32)), .unset, .unset, .unset] at_128 rfl rfl ?_
                      refine wkP.iload 132 at_130 rfl rfl ?_
                      refine wkP.ifF 135 at_132 (show ¬ (¬ (0 : Int32) < (10 : Int32)) from (by decide)) rfl ?_
                      refine wkP.iload 137 at_135 rfl rfl ?_
                      refine wkP.iconst 138 (1 : Int32) at_137 rfl rfl ?_
                      refine wkP.isub 139 (9 : Int32) at_138 (by decide) rfl ?_
                      refine wkP.istore 141 #[.val (.int i0), .val (.long i1), .second, .val (.long i2), .second, .val (.int i3), .val (.int (10 : Int32)), .val (.ref a307), .val (.ref s), .val (.int z), .val (.int (10 : Int32)), .val (.int (9 : Int32)), .unset, .unset] at_139 rfl rfl ?_
                      refine wkP.iload 143 at_141 rfl rfl ?_
                      refine wkP.ldcI 145 (w101 g.1) at_143 rfl ?_
                      refine wkP.imul 146 ((10 : Int32) * (923521 : Int32)) at_145 rfl rfl ?_
                      refine wkP.aload 148 at_146 rfl rfl rfl ?_
                      refine wkP.iload 150 at_148 rfl rfl ?_
                      refine wkP.iconst 151 (4 : Int32) at_150 rfl rfl ?_
                      refine wkP.idiv 152 (2 : Int32) at_151 (by decide) (by decide) rfl ?_
                      have A317_349 := (A317.keep K347 nn0)
                      refine wkP.caload 153 2 c2 A317_349 at_152 rfl rfl rfl ?_
                      refine wkP.sipush 156 (29791 : Int32) at_153 rfl rfl ?_
                      refine wkP.imul 157 (c2 * (29791 : Int32)) at_156 rfl rfl ?_
                      refine wkP.iadd 158 (((10 : Int32) * (923521 : Int32)) + (c2 * (29791 : Int32))) at_157 rfl rfl ?_
                      refine wkP.aload 160 at_158 rfl rfl rfl ?_
                      refine wkP.iload 162 at_160 rfl rfl ?_
                      refine wkP.iconst 163 (2 : Int32) at_162 rfl rfl ?_
                      refine wkP.idiv 164 (4 : Int32) at_163 (by decide) (by decide) rfl ?_
                      refine wkP.caload 165 4 c4 A317_349 at_164 rfl rfl rfl ?_
                      refine wkP.sipush 168 (961 : Int32) at_165 rfl rfl ?_
                      refine wkP.imul 169 (c4 * (961 : Int32)) at_168 rfl rfl ?_
                      refine wkP.iadd 170 ((((10 : Int32) * (923521 : Int32)) + (c2 * (29791 : Int32))) + (c4 * (961 : Int32))) at_169 rfl rfl ?_
                      refine wkP.aload 172 at_170 rfl rfl rfl ?_
                      refine wkP.iload 174 at_172 rfl rfl ?_
                      refine wkP.iload 176 at_174 rfl rfl ?_
                      refine wkP.iconst 177 (4 : Int32) at_176 rfl rfl ?_
                      refine wkP.idiv 178 (2 : Int32) at_177 (by decide) (by decide) rfl ?_
                      refine wkP.isub 179 (7 : Int32) at_178 (by decide) rfl ?_
                      refine wkP.caload 180 7 c7 A317_349 at_179 rfl rfl rfl ?_
                      refine wkP.bipush 182 (31 : Int32) at_180 rfl rfl ?_
                      refine wkP.imul 183 (c7 * (31 : Int32)) at_182 rfl rfl ?_
                      refine wkP.iadd 184 (((((10 : Int32) * (923521 : Int32)) + (c2 * (29791 : Int32))) + (c4 * (961 : Int32))) + (c7 * (31 : Int32))) at_183 rfl rfl ?_
                      refine wkP.aload 186 at_184 rfl rfl rfl ?_
                      refine wkP.iload 188 at_186 rfl rfl ?_
                      refine wkP.caload 189 9 c9 A317_349 at_188 rfl rfl rfl ?_
                      refine wkP.iadd 190 ((((((10 : Int32) * (923521 : Int32)) + (c2 * (29791 : Int32))) + (c4 * (961 : Int32))) + (c7 * (31 : Int32))) + c9) at_189 rfl rfl ?_
                      rw [show ((((((10 : Int32) * (923521 : Int32)) + (c2 * (29791 : Int32))) + (c4 * (961 : Int32))) + (c7 * (31 : Int32))) + c9) = (((31 : Int32) * (((31 : Int32) * (((31 : Int32) * (((31 : Int32) * (10 : Int32)) + c2)) + c4)) + c7)) + c9) from by exact ring5 _ _ _ _ _]
                      refine wkP.istore 192 #[.val (.int i0), .val (.long i1), .second, .val (.long i2), .second, .val (.int i3), .val (.int (10 : Int32)), .val (.ref a307), .val (.ref s), .val (.int z), .val (.int (((31 : Int32) * (((31 : Int32) * (((31 : Int32) * (((31 : Int32) * (10 : Int32)) + c2)) + c4)) + c7)) + c9)), .val (.int (9 : Int32)), .unset, .unset] at_190 rfl rfl ?_
                      refine wkP.iload 194 at_192 rfl rfl ?_
                      refine wkP.i2l 195 ((((31 : Int32) * (((31 : Int32) * (((31 : Int32) * (((31 : Int32) * (10 : Int32)) + c2)) + c4)) + c7)) + c9)).toInt64 at_194 rfl rfl ?_
                      refine wkP.ldcL 198 (w43 g.1) at_195 rfl ?_
                      refine wkP.lmul 199 (((((31 : Int32) * (((31 : Int32) * (((31 : Int32) * (((31 : Int32) * (10 : Int32)) + c2)) + c4)) + c7)) + c9)).toInt64 * (2654435769 : Int64)) at_198 rfl rfl ?_
                      refine wkP.ldcL 202 (w44 g.1) at_199 rfl ?_
                      refine wkP.land 203 ((((((31 : Int32) * (((31 : Int32) * (((31 : Int32) * (((31 : Int32) * (10 : Int32)) + c2)) + c4)) + c7)) + c9)).toInt64 * (2654435769 : Int64)) &&& (4294967295 : Int64)) at_202 rfl rfl ?_
                      refine wkP.lstore 205 #[.val (.int i0), .val (.long i1), .second, .val (.long i2), .second, .val (.int i3), .val (.int (10 : Int32)), .val (.ref a307), .val (.ref s), .val (.int z), .val (.int (((31 : Int32) * (((31 : Int32) * (((31 : Int32) * (((31 : Int32) * (10 : Int32)) + c2)) + c4)) + c7)) + c9)), .val (.long ((((((31 : Int32) * (((31 : Int32) * (((31 : Int32) * (((31 : Int32) * (10 : Int32)) + c2)) + c4)) + c7)) + c9)).toInt64 * (2654435769 : Int64)) &&& (4294967295 : Int64))), .second, .unset] at_203 rfl rfl ?_
                      refine wkP.lload 207 at_205 rfl rfl ?_
                      refine wkP.bipush 209 (26 : Int32) at_207 rfl rfl ?_
                      refine wkP.lushr 210 ((((((((31 : Int32) * (((31 : Int32) * (((31 : Int32) * (((31 : Int32) * (10 : Int32)) + c2)) + c4)) + c7)) + c9)).toInt64 * (2654435769 : Int64)) &&& (4294967295 : Int64))).toUInt64 >>> ((26 : Int32) &&& 0x3f).toInt64.toUInt64).toInt64 at_209 rfl rfl ?_
                      refine wkP.l2i 211 z at_210 hz2 rfl ?_
                      refine wkP.istore 213 #[.val (.int i0), .val (.long i1), .second, .val (.long i2), .second, .val (.int i3), .val (.int (10 : Int32)), .val (.ref a307), .val (.ref s), .val (.int z), .val (.int (((31 : Int32) * (((31 : Int32) * (((31 : Int32) * (((31 : Int32) * (10 : Int32)) + c2)) + c4)) + c7)) + c9)), .val (.long ((((((31 : Int32) * (((31 : Int32) * (((31 : Int32) * (((31 : Int32) * (10 : Int32)) + c2)) + c4)) + c7)) + c9)).toInt64 * (2654435769 : Int64)) &&& (4294967295 : Int64))), .second, .val (.int z)] at_211 rfl rfl ?_
                      refine wkP.iload 215 at_213 rfl rfl ?_
                      refine wkP.iload 217 at_215 rfl rfl ?_
                      refine wkP.icmpF 220 at_217 (show ¬ (¬ z = z) from (fun q => q rfl)) rfl ?_
                      refine wkP.iload 222 at_220 rfl rfl ?_
                      refine wkP.ifF 225 at_222 (show ¬ (z < (0 : Int32)) from hz3) rfl ?_
                      refine wkP.iload 227 at_225 rfl rfl ?_
                      refine wkP.bipush 229 (64 : Int32) at_227 rfl rfl ?_
                      refine wkP.icmpF 232 at_229 (show ¬ (¬ z < (64 : Int32)) from (fun q => q hz4)) rfl ?_
                      refine wkP.iconst 233 (1 : Int32) at_232 rfl rfl ?_
                      refine wkP.goto 237 at_233 (by decide) (by decide) ?_
                      exact wkP.retI .boolean [] g.2.1 at_237 rfl (by simp) rfl (by decide) (by decide) (by simp) rfl
theorem own_EW {Z : State} {a0 : Array Value} (hw : ∀ d ∈ tables_1, d.before a0 Z = true) : EW Z a0 EL := by
  exact (EW.cons (text := "") (w19 hw) (by decide) EW.nil)
set_option maxRecDepth 65536 in
set_option maxHeartbeats 4000000 in
theorem comes_1 {Post : Tables → Env → Array Value → State → Outcome → State → Prop} (hpost : ∀ tb e args s v u, (limb_1_1.after args s (.returned v) u = true ∧ limb_1_2.after args s (.returned v) u = true ∧ True) → FramedW s (.returned v) u (Jvm.fieldLocs frame_1_writes args s ++ Jvm.arrayLocs frame_1_arrays args s ++ Jvm.staticLocs frame_1_statics s) 24 1216 → Post tb e args s (.returned v) u) :
    ArmFor flags0 classFile x code maxLocals ret World_1 tables_1 room_1 Calls_1 rest_1 Pre_1 Post := by
  intro l hfl _ _ p e ha hc hk s m args below hf hA hF happ hP
  obtain ⟨hcalls, hrest, hpre⟩ := hP
  obtain ⟨-, -, -, hnamed, -, -, -, hat⟩ := (Spec.applies_iff hf).mp happ
  obtain ⟨hg, hn⟩ := and_e (Cond.before_iff.mp (show (Jvm.Cond.and given_1 narrow_1).before args s = true from hpre))
  obtain ⟨q0, hg⟩ := and_e hg
  obtain ⟨q1, hg⟩ := and_e hg
  obtain ⟨q2, hg⟩ := and_e hg
  obtain ⟨q3, hg⟩ := and_e hg
  have q4 := hg
  obtain ⟨u0, u1, u2, u3, rfl⟩ : ∃ u0 u1 u2 u3 : Value, args = #[u0, u1, u2, u3] := by
    have hs : args.size = 4 := by simpa [Cond.value, given_1] using q0
    obtain ⟨L⟩ := args
    match L, hs with
    | [u0, u1, u2, u3], _ => exact ⟨u0, u1, u2, u3, rfl⟩
  have hw := fun d (hd : d ∈ tables_1) => atoms_spec (ws := Jvm.Cond.code x code maxLocals ret :: tables_1) hat d (List.mem_cons_of_mem _ hd)
  obtain ⟨hsets, hown0⟩ := atoms_of _ (rest_1_c_eq ▸ (show rest_1_c.before _ s = true from hrest))
  obtain ⟨i0, e0⟩ := is_v q1
  obtain rfl : u0 = (.int i0) := Option.some.inj e0
  obtain ⟨i1, e1⟩ := isL_v q2
  obtain rfl : u1 = (.long i1) := Option.some.inj e1
  obtain ⟨i2, e2⟩ := isL_v q3
  obtain rfl : u2 = (.long i2) := Option.some.inj e2
  obtain ⟨i3, e3⟩ := is_v q4
  obtain rfl : u3 = (.int i3) := Option.some.inj e3
  have n3 := not_v (Cond.before_iff.mp (hsets _ (List.mem_of_getElem? (i := 2) rfl)))
  obtain ⟨zc, ezc⟩ := is_v (Cond.before_iff.mp (hsets _ (List.mem_of_getElem? (i := 1) rfl)))
  have S8 : Sta s s.heap "java/lang/String" "COMPACT_STRINGS" "Z" (.int zc) := Sta.start ezc (Or.inl (hsets _ (List.mem_of_getElem? (i := 0) rfl)))
  have c13 : ¬ (zc = (0 : Int32)) := gotF (Cond.eq_ints ezc (Term.int_eval (0))) n3
  obtain ⟨fm, efm, rfm⟩ := isR_v (Cond.before_iff.mp (hsets _ (List.mem_of_getElem? (i := 8) rfl)))
  have S9 : Sta s s.heap "jdk/internal/util/Preconditions" "SIOOBE_FORMATTER" "Ljava/util/function/BiFunction;" fm := Sta.start efm (Or.inl (hsets _ (List.mem_of_getElem? (i := 7) rfl)))
  have T0 : Sta s s.heap "java/lang/StringUTF16" "$assertionsDisabled" "Z" (.int 1) := Sta.start (Cond.eq_int (hsets _ (List.mem_of_getElem? (i := 12) rfl)) rfl) (Or.inl (hsets _ (List.mem_of_getElem? (i := 11) rfl)))
  have T1 : Sta s s.heap "java/lang/StringUTF16" "HI_BYTE_SHIFT" "I" (.int 0) := Sta.start (Cond.eq_int (hsets _ (List.mem_of_getElem? (i := 15) rfl)) rfl) (Or.inl (hsets _ (List.mem_of_getElem? (i := 14) rfl)))
  have T2 : Sta s s.heap "java/lang/StringUTF16" "LO_BYTE_SHIFT" "I" (.int 8) := Sta.start (Cond.eq_int (hsets _ (List.mem_of_getElem? (i := 18) rfl)) rfl) (Or.inl (hsets _ (List.mem_of_getElem? (i := 17) rfl)))
  have hE := own_EW hw
  have hCH : CHv s EL s.vm s.heap := CHv.start hE (fun q hq => hcalls.1 q hq) (hsets _ (List.mem_of_getElem? (i := 2) rfl)) (sAtoms hw _ (by simp [Bundle.stringAtoms])) (sAtoms hw _ (by simp [Bundle.stringAtoms, Bundle.sN]))
  obtain ⟨b1, b2, b3, b4, b5, b6, b7, -⟩ := (Spec.appliesLoose_iff hf).mp ((Spec.applies_iff_loose hf).mp happ).1
  have hcode := atoms_spec (ws := Jvm.Cond.code x code maxLocals ret :: tables_1) hat _ (List.mem_cons_self ..)
  have hap : (head1 [Jvm.Cond.code x code maxLocals ret] room_1).appliesLoose x e.platform s = true := (Spec.appliesLoose_iff hf).mpr ⟨b1, b2, b3, b4, b5, b6, b7, by show (Jvm.Cond.and _ .tt).before _ s = true; rw [Cond.before_and, hcode]; rfl⟩
  obtain ⟨n, o, h1, h2, h3, v, L, rfl, ⟨os, rfl, -, N, -, -⟩, -, hq⟩ := M_law l s _ ⟨hw, hE, ⟨zc, S8, c13⟩, ⟨fm, S9, rfm⟩, T0, T1, T2⟩ s.heap i0 i1 i2 i3 (Old.start s) (by simp) p e ha hc hk s m _ below hf hap ⟨rfl, State.Warmed39.refl s, rfl, hCH, by simp⟩ trivial
  exact ⟨n, _, h1, h2, h3, hpost _ _ _ _ _ _ ⟨Cond.after_iff.mpr rfl, Cond.after_iff.mpr (eq_i res_at (Term.int_eval (1)) rfl), trivial⟩ ⟨hq.1, hq.2.1, hq.2.2.1, (hq.2.2.2.sift fun y hy => Or.inr (N y hy)).mono (by decide) (by decide)⟩⟩
theorem main_1_1 : Claimed_1_1 := comes_1 fun _ _ _ _ _ _ h hF => ⟨h.1, hF⟩
theorem main_1_2 : Claimed_1_2 := comes_1 fun _ _ _ _ _ _ h hF => ⟨h.2.1, hF⟩
end Jvm.Pilot.@@N@@
namespace Jvm.Pilot.@@N@@
open Jvm Jvm.ClassFile Sem Op Lib Jvm.Free Jvm.Stand Jvm.Pilot.@@N@@.Jvm.D
/-! MADE BY PROGRAM (witnessworld.py) out of the Statement's table words and the real class files: 20 classes; the members and pool entries that the words name. The judged class is class 1, her method 1. -/
namespace start1
open Jvm.ClassFile
def u (s : String) : CpInfo := .utf8 (stringToUtf16 s)
/-- a pool by its gaps: so many unusable entries, then the entry; so many at the end -/
def gap : Nat → List CpInfo → List CpInfo
  | 0, r => r
  | n + 1, r => .unusable :: gap n r
def poolList (es : List (Nat × CpInfo)) (last : Nat) : List CpInfo := es.foldr (fun e r => gap e.1 (e.2 :: r)) (gap last [])
def pool (es : List (Nat × CpInfo)) (last : Nat) : Array CpInfo := ⟨poolList es last⟩
def fileOf (pool : Array CpInfo) (this : Nat) (attrs : Array Attribute := #[]) (ms : Array MethodInfo := #[]) (fl : Nat := 33) (sup : Nat := 0) (ifs : Array Nat := #[]) (fds : Array FieldInfo := #[]) : ClassFile where
  minorVersion := 0
  majorVersion := 65
  constantPool := pool
  accessFlags := fl
  thisClass := this
  superClass := sup
  interfaces := ifs
  fields := fds
  methods := ms
  attributes := attrs
def plain (name : String) (sup : Option ClassId) : Class where
  name := name
  kind := .ordinary
  loader := none
  accessFlags := 33
  super := sup
  interfaces := #[]
  cf := none
  fields := #[]
  methods := #[]
  instanceTypes := #[]
  staticTypes := #[]
  resolved := #[]
  callSites := []
  init := .initialized
  statics := none
  mirror := none

def pool0 : Array CpInfo := pool [(5, u "<init>"), (0, u "()V"), (1, .class_ 10), (1, u "java/lang/Object")] 113

def k0c0 : Code := { maxStack := 0, maxLocals := 1, code := object_method_1_code, exceptionTable := #[], attributes := #[] }
def k0m0 : Method := { name := "<init>", desc := "()V", sig := { parameters := [], returnType := none }, accessFlags := 1, code := some k0c0 }
/-- java/lang/Object -/
def k0 : Class := { plain "java/lang/Object" none with
  accessFlags := 33
  interfaces := #[]
  cf := some (fileOf pool0 8 #[] #[{ accessFlags := 1, nameIndex := 5, descriptorIndex := 6, attributes := #[] }] 33 0 #[] #[])
  fields := #[]
  methods := #[k0m0]
  instanceTypes := #[]
  staticTypes := #[]
  resolved := Array.replicate 124 none
  statics := none }

def pool1 : Array CpInfo := pool [(2, .class_ 4), (1, u "java/lang/Object"), (0, u "<init>"), (0, u "()V"), (0, .integer 2147483647), (0, .methodref 9 10), (0, .class_ 11), (0, .nameAndType 12 13), (0, u "com/example/sober_commit/sobercommit/SeenTextsSlotPinLaw"), (0, u "text"), (0, u "([CI)Ljava/lang/String;"), (0, .methodref 15 16), (0, .class_ 17), (0, .nameAndType 18 19), (0, u "com/example/sober_commit/sobercommit/Dialect$SeenTexts"), (0, u "slot"), (0, u "(Ljava/lang/String;)I"), (0, .integer 923521), (0, .long 2654435769), (1, .long 4294967295), (1, .class_ 26), (0, u "java/lang/String"), (0, .methodref 25 28), (0, .nameAndType 5 29), (0, u "([C)V"), (2, u "law"), (0, u "(IJJI)Z")] 9

def k1m0 : Method := { name := "<init>", desc := "()V", sig := { parameters := [], returnType := none }, accessFlags := 1, code := none }
def k1c1 : Code := { maxStack := 5, maxLocals := 14, code := code, exceptionTable := #[], attributes := #[] }
def k1m1 : Method := { name := "law", desc := "(IJJI)Z", sig := { parameters := [.int, .long, .long, .int], returnType := some .boolean }, accessFlags := 9, code := some k1c1 }
def k1c2 : Code := { maxStack := 7, maxLocals := 2, code := method_3_code, exceptionTable := #[], attributes := #[] }
def k1m2 : Method := { name := "text", desc := "([CI)Ljava/lang/String;", sig := { parameters := [(.array .char), .int], returnType := some (.object "java/lang/String") }, accessFlags := 10, code := some k1c2 }
/-- com/example/sober_commit/sobercommit/SeenTextsSlotPinLaw -/
def k1 : Class := { plain "com/example/sober_commit/sobercommit/SeenTextsSlotPinLaw" (some 0) with
  accessFlags := 49
  interfaces := #[]
  cf := some (fileOf pool1 9 #[] #[{ accessFlags := 1, nameIndex := 5, descriptorIndex := 6, attributes := #[] }, { accessFlags := 9, nameIndex := 32, descriptorIndex := 33, attributes := #[] }, { accessFlags := 10, nameIndex := 12, descriptorIndex := 13, attributes := #[] }] 49 2 #[] #[])
  fields := #[]
  methods := #[k1m0, k1m1, k1m2]
  instanceTypes := #[]
  staticTypes := #[]
  resolved := Array.replicate 43 none
  statics := none }

def pool2 : Array CpInfo := pool [(1, .class_ 2), (0, u "java/io/Serializable"), (0, .class_ 4), (0, u "java/lang/Object")] 2

/-- java/io/Serializable -/
def k2 : Class := { plain "java/io/Serializable" (some 0) with
  accessFlags := 1537
  interfaces := #[]
  cf := some (fileOf pool2 1 #[] #[] 1537 3 #[] #[])
  fields := #[]
  methods := #[]
  instanceTypes := #[]
  staticTypes := #[]
  resolved := Array.replicate 7 none
  statics := none }

def pool3 : Array CpInfo := pool [(1, .class_ 2), (0, u "java/lang/Comparable"), (0, .class_ 4), (0, u "java/lang/Object")] 7

/-- java/lang/Comparable -/
def k3 : Class := { plain "java/lang/Comparable" (some 0) with
  accessFlags := 1537
  interfaces := #[]
  cf := some (fileOf pool3 1 #[] #[] 1537 3 #[] #[])
  fields := #[]
  methods := #[]
  instanceTypes := #[]
  staticTypes := #[]
  resolved := Array.replicate 12 none
  statics := none }

def pool4 : Array CpInfo := pool [(2, .class_ 4), (1, u "java/lang/CharSequence"), (42, .class_ 48), (0, u "java/lang/CharSequence$1CodePointIterator"), (10, .class_ 60), (0, u "java/lang/CharSequence$1CharIterator"), (5, .class_ 67), (0, u "java/lang/Object")] 63

/-- java/lang/CharSequence -/
def k4 : Class := { plain "java/lang/CharSequence" (some 0) with
  accessFlags := 1537
  interfaces := #[]
  cf := some (fileOf pool4 2 #[.nestMembers #[47, 59]] #[] 1537 66 #[] #[])
  fields := #[]
  methods := #[]
  instanceTypes := #[]
  staticTypes := #[]
  resolved := Array.replicate 131 none
  statics := none }

def pool5 : Array CpInfo := pool [(1, .class_ 2), (0, u "java/lang/constant/Constable"), (0, .class_ 4), (0, u "java/lang/Object")] 6

/-- java/lang/constant/Constable -/
def k5 : Class := { plain "java/lang/constant/Constable" (some 0) with
  accessFlags := 1537
  interfaces := #[]
  cf := some (fileOf pool5 1 #[] #[] 1537 3 #[] #[])
  fields := #[]
  methods := #[]
  instanceTypes := #[]
  staticTypes := #[]
  resolved := Array.replicate 11 none
  statics := none }

def pool6 : Array CpInfo := pool [(1, .class_ 2), (0, u "java/lang/constant/ConstantDesc"), (0, .class_ 4), (0, u "java/lang/Object")] 32

/-- java/lang/constant/ConstantDesc -/
def k6 : Class := { plain "java/lang/constant/ConstantDesc" (some 0) with
  accessFlags := 1537
  interfaces := #[]
  cf := some (fileOf pool6 1 #[] #[] 1537 3 #[] #[])
  fields := #[]
  methods := #[]
  instanceTypes := #[]
  staticTypes := #[]
  resolved := Array.replicate 37 none
  statics := none }

def pool7 : Array CpInfo := pool [(1, .methodref 2 3), (0, .class_ 4), (0, .nameAndType 5 6), (0, u "java/lang/Object"), (0, u "<init>"), (0, u "()V"), (0, .string 8), (0, u ""), (0, .fieldref 10 11), (0, .class_ 12), (0, .nameAndType 13 14), (0, u "java/lang/String"), (0, u "value"), (0, u "[B"), (0, .fieldref 10 16), (0, .nameAndType 17 18), (0, u "coder"), (0, u "B"), (2, u "hash"), (0, u "I"), (2, u "hashIsZero"), (0, u "Z"), (0, .methodref 10 28), (0, .nameAndType 5 29), (0, u "([CIILjava/lang/Void;)V"), (8, .fieldref 10 39), (0, .nameAndType 40 26), (0, u "COMPACT_STRINGS"), (1, .class_ 44), (1, u "java/lang/StringUTF16"), (0, u "compress"), (1, .methodref 42 48), (0, .nameAndType 49 50), (0, u "coderFromArrayLen"), (0, u "([BI)B"), (56, .class_ 109), (1, u "java/lang/StringLatin1"), (32, u "()Z"), (34, .methodref 42 178), (0, .nameAndType 45 179), (0, u "([CII)[B"), (154, u "()I"), (0, .methodref 10 336), (0, .nameAndType 17 337), (0, u "()B"), (25, u "([BI)C"), (27, u "(II)V"), (35, u "(I)C"), (64, .methodref 10 493), (0, .nameAndType 494 142), (0, u "isLatin1"), (0, .methodref 107 496), (0, .nameAndType 497 363), (0, u "charAt"), (0, .methodref 42 496), (2, u "checkIndex"), (5, u "length"), (67, .class_ 576), (0, u "java/lang/CharSequence"), (22, u "CASE_INSENSITIVE_ORDER"), (0, u "Ljava/util/Comparator;"), (409, u "([C)V"), (42, .fieldref 1054 1055), (0, .class_ 1056), (0, .nameAndType 1057 1058), (0, u "jdk/internal/util/Preconditions"), (0, u "SIOOBE_FORMATTER"), (0, u "Ljava/util/function/BiFunction;"), (0, .methodref 1054 1060), (0, .nameAndType 501 1061), (0, u "(IILjava/util/function/BiFunction;)I"), (39, u "serialPersistentFields"), (0, u "[Ljava/io/ObjectStreamField;"), (0, .class_ 1104), (0, u "java/lang/String$CaseInsensitiveComparator"), (1, .class_ 1107), (0, u "java/io/Serializable"), (0, .class_ 1109), (0, u "java/lang/Comparable"), (0, .class_ 1111), (0, u "java/lang/constant/Constable"), (0, .class_ 1113), (0, u "java/lang/constant/ConstantDesc"), (2, u "serialVersionUID"), (0, u "J"), (3, u "REPL"), (0, u "C"), (2, u "LATIN1"), (1, u "UTF16")] 323

def k7m0 : Method := { name := "<init>", desc := "()V", sig := { parameters := [], returnType := none }, accessFlags := 1, code := none }
def k7c1 : Code := { maxStack := 5, maxLocals := 2, code := jdk_42_method_3_code, exceptionTable := #[], attributes := #[] }
def k7m1 : Method := { name := "<init>", desc := "([C)V", sig := { parameters := [(.array .char)], returnType := none }, accessFlags := 1, code := some k7c1 }
def k7c2 : Code := { maxStack := 2, maxLocals := 1, code := jdk_42_method_54_code, exceptionTable := #[], attributes := #[] }
def k7m2 : Method := { name := "length", desc := "()I", sig := { parameters := [], returnType := some .int }, accessFlags := 1, code := some k7c2 }
def k7c3 : Code := { maxStack := 2, maxLocals := 2, code := jdk_42_method_56_code, exceptionTable := #[], attributes := #[] }
def k7m3 : Method := { name := "charAt", desc := "(I)C", sig := { parameters := [.int], returnType := some .char }, accessFlags := 1, code := some k7c3 }
def k7c4 : Code := { maxStack := 4, maxLocals := 6, code := jdk_42_method_149_code, exceptionTable := #[], attributes := #[] }
def k7m4 : Method := { name := "<init>", desc := "([CIILjava/lang/Void;)V", sig := { parameters := [(.array .char), .int, .int, (.object "java/lang/Void")], returnType := none }, accessFlags := 2, code := some k7c4 }
def k7c5 : Code := { maxStack := 1, maxLocals := 1, code := jdk_42_method_152_code, exceptionTable := #[], attributes := #[] }
def k7m5 : Method := { name := "coder", desc := "()B", sig := { parameters := [], returnType := some .byte }, accessFlags := 0, code := some k7c5 }
def k7c6 : Code := { maxStack := 1, maxLocals := 1, code := jdk_42_method_154_code, exceptionTable := #[], attributes := #[] }
def k7m6 : Method := { name := "isLatin1", desc := "()Z", sig := { parameters := [], returnType := some .boolean }, accessFlags := 0, code := some k7c6 }
def k7c7 : Code := { maxStack := 3, maxLocals := 2, code := jdk_42_method_155_code, exceptionTable := #[], attributes := #[] }
def k7m7 : Method := { name := "checkIndex", desc := "(II)V", sig := { parameters := [.int, .int], returnType := none }, accessFlags := 8, code := some k7c7 }
/-- java/lang/String -/
def k7 : Class := { plain "java/lang/String" (some 0) with
  accessFlags := 49
  interfaces := #[2, 3, 4, 5, 6]
  cf := some (fileOf pool7 10 #[.nestMembers #[1103]] #[{ accessFlags := 1, nameIndex := 5, descriptorIndex := 6, attributes := #[] }, { accessFlags := 1, nameIndex := 5, descriptorIndex := 1010, attributes := #[] }, { accessFlags := 1, nameIndex := 507, descriptorIndex := 334, attributes := #[] }, { accessFlags := 1, nameIndex := 497, descriptorIndex := 427, attributes := #[] }, { accessFlags := 2, nameIndex := 5, descriptorIndex := 29, attributes := #[] }, { accessFlags := 0, nameIndex := 17, descriptorIndex := 337, attributes := #[] }, { accessFlags := 0, nameIndex := 494, descriptorIndex := 142, attributes := #[] }, { accessFlags := 8, nameIndex := 501, descriptorIndex := 391, attributes := #[] }] 49 2 #[1106, 1108, 575, 1110, 1112] #[{ accessFlags := 18, nameIndex := 13, descriptorIndex := 14, attributes := #[] }, { accessFlags := 18, nameIndex := 17, descriptorIndex := 18, attributes := #[] }, { accessFlags := 2, nameIndex := 21, descriptorIndex := 22, attributes := #[] }, { accessFlags := 2, nameIndex := 25, descriptorIndex := 26, attributes := #[] }, { accessFlags := 26, nameIndex := 1116, descriptorIndex := 1117, attributes := #[] }, { accessFlags := 24, nameIndex := 40, descriptorIndex := 26, attributes := #[] }, { accessFlags := 26, nameIndex := 1101, descriptorIndex := 1102, attributes := #[] }, { accessFlags := 26, nameIndex := 1121, descriptorIndex := 1122, attributes := #[] }, { accessFlags := 25, nameIndex := 599, descriptorIndex := 600, attributes := #[] }, { accessFlags := 24, nameIndex := 1125, descriptorIndex := 18, attributes := #[] }, { accessFlags := 24, nameIndex := 1127, descriptorIndex := 18, attributes := #[] }])
  fields := #[{ name := "value", type := (.array .byte), accessFlags := 18, slot := 0, constantValue := 0 }, { name := "coder", type := .byte, accessFlags := 18, slot := 1, constantValue := 0 }, { name := "hash", type := .int, accessFlags := 2, slot := 2, constantValue := 0 }, { name := "hashIsZero", type := .boolean, accessFlags := 2, slot := 3, constantValue := 0 }, { name := "serialVersionUID", type := .long, accessFlags := 26, slot := 0, constantValue := 0 }, { name := "COMPACT_STRINGS", type := .boolean, accessFlags := 24, slot := 1, constantValue := 0 }, { name := "serialPersistentFields", type := (.array (.object "java/io/ObjectStreamField")), accessFlags := 26, slot := 2, constantValue := 0 }, { name := "REPL", type := .char, accessFlags := 26, slot := 3, constantValue := 0 }, { name := "CASE_INSENSITIVE_ORDER", type := (.object "java/util/Comparator"), accessFlags := 25, slot := 4, constantValue := 0 }, { name := "LATIN1", type := .byte, accessFlags := 24, slot := 5, constantValue := 0 }, { name := "UTF16", type := .byte, accessFlags := 24, slot := 6, constantValue := 0 }]
  methods := #[k7m0, k7m1, k7m2, k7m3, k7m4, k7m5, k7m6, k7m7]
  instanceTypes := #[(.array .byte), .byte, .int, .boolean]
  staticTypes := #[.long, .boolean, (.array (.object "java/io/ObjectStreamField")), .char, (.object "java/util/Comparator"), .byte, .byte]
  resolved := Array.replicate 1451 none
  statics := some 0 }

def pool8 : Array CpInfo := pool [(2, .class_ 4), (1, u "java/lang/Object"), (0, u "<init>"), (0, u "()V"), (0, .class_ 8), (0, u "com/example/sober_commit/sobercommit/Dialect$SeenTexts"), (0, .class_ 10), (0, u "java/lang/String"), (2, u "slots"), (0, u "[Ljava/lang/String;"), (2, u "slot"), (0, u "(Ljava/lang/String;)I"), (4, .methodref 9 24), (0, .nameAndType 25 26), (0, u "length"), (0, u "()I"), (0, .methodref 9 28), (0, .nameAndType 29 30), (0, u "charAt"), (0, u "(I)C"), (0, .integer 2654435769), (2, u "SLOT_BITS"), (0, u "I"), (12, .class_ 49), (0, u "com/example/sober_commit/sobercommit/Dialect")] 2

def k8m0 : Method := { name := "<init>", desc := "()V", sig := { parameters := [], returnType := none }, accessFlags := 0, code := none }
def k8c1 : Code := { maxStack := 5, maxLocals := 4, code := prog_9_method_4_code, exceptionTable := #[], attributes := #[] }
def k8m1 : Method := { name := "slot", desc := "(Ljava/lang/String;)I", sig := { parameters := [(.object "java/lang/String")], returnType := some .int }, accessFlags := 8, code := some k8c1 }
/-- com/example/sober_commit/sobercommit/Dialect$SeenTexts -/
def k8 : Class := { plain "com/example/sober_commit/sobercommit/Dialect$SeenTexts" (some 0) with
  accessFlags := 32
  interfaces := #[]
  cf := some (fileOf pool8 7 #[.nestHost 48] #[{ accessFlags := 0, nameIndex := 5, descriptorIndex := 6, attributes := #[] }, { accessFlags := 8, nameIndex := 17, descriptorIndex := 18, attributes := #[] }] 32 2 #[] #[{ accessFlags := 26, nameIndex := 34, descriptorIndex := 35, attributes := #[] }, { accessFlags := 18, nameIndex := 13, descriptorIndex := 14, attributes := #[] }])
  fields := #[{ name := "SLOT_BITS", type := .int, accessFlags := 26, slot := 0, constantValue := 0 }, { name := "slots", type := (.array (.object "java/lang/String")), accessFlags := 18, slot := 0, constantValue := 0 }]
  methods := #[k8m0, k8m1]
  instanceTypes := #[(.array (.object "java/lang/String"))]
  staticTypes := #[.int]
  resolved := Array.replicate 52 none
  statics := none }

def pool9 : Array CpInfo := pool [(3, .class_ 4), (0, u "java/lang/String"), (1, .class_ 8), (1, u "java/lang/Object"), (0, u "<init>"), (0, u "()V"), (0, .methodref 12 13), (0, .class_ 14), (0, .nameAndType 15 16), (0, u "java/lang/StringUTF16"), (0, u "newBytesLength"), (0, u "(I)I"), (3, .integer 1073741823), (23, .fieldref 12 45), (0, .nameAndType 46 47), (0, u "$assertionsDisabled"), (0, u "Z"), (0, .methodref 12 49), (0, .nameAndType 50 51), (0, u "length"), (0, u "([B)I"), (7, .fieldref 12 60), (0, .nameAndType 61 62), (0, u "HI_BYTE_SHIFT"), (0, u "I"), (0, .fieldref 12 64), (0, .nameAndType 65 62), (0, u "LO_BYTE_SHIFT"), (1, .methodref 12 68), (0, .nameAndType 69 70), (0, u "checkIndex"), (0, u "(I[B)V"), (0, .methodref 12 72), (0, .nameAndType 73 74), (0, u "getChar"), (0, u "([BI)C"), (32, .methodref 12 108), (0, .nameAndType 109 110), (0, u "newBytesFor"), (0, u "(I)[B"), (0, .methodref 12 112), (0, .nameAndType 113 114), (0, u "putChar"), (0, u "([BII)V"), (0, .methodref 12 116), (0, .nameAndType 117 118), (0, u "compress"), (0, u "([CI[BII)I"), (0, .methodref 12 120), (0, .nameAndType 121 122), (0, u "toBytes"), (0, u "([CII)[B"), (138, u "coderFromArrayLen"), (0, u "([BI)B"), (106, .class_ 371), (1, u "java/lang/StringUTF16$LinesSpliterator"), (20, u "charAt"), (21, .methodref 3 415), (0, .nameAndType 69 416), (0, u "(II)V"), (13, u "MAX_LENGTH"), (196, .class_ 628), (0, u "java/lang/StringUTF16$CodePointsSpliterator"), (0, .class_ 630), (0, u "java/lang/StringUTF16$CharsSpliterator")] 4

def k9m0 : Method := { name := "<init>", desc := "()V", sig := { parameters := [], returnType := none }, accessFlags := 0, code := none }
def k9c1 : Code := { maxStack := 1, maxLocals := 1, code := jdk_52_method_2_code, exceptionTable := #[], attributes := #[] }
def k9m1 : Method := { name := "newBytesFor", desc := "(I)[B", sig := { parameters := [.int], returnType := some (.array .byte) }, accessFlags := 9, code := some k9c1 }
def k9c2 : Code := { maxStack := 4, maxLocals := 1, code := jdk_52_method_3_code, exceptionTable := #[], attributes := #[] }
def k9m2 : Method := { name := "newBytesLength", desc := "(I)I", sig := { parameters := [.int], returnType := some .int }, accessFlags := 9, code := some k9c2 }
def k9c3 : Code := { maxStack := 4, maxLocals := 3, code := jdk_52_method_4_code, exceptionTable := #[], attributes := #[] }
def k9m3 : Method := { name := "putChar", desc := "([BII)V", sig := { parameters := [(.array .byte), .int, .int], returnType := none }, accessFlags := 8, code := some k9c3 }
def k9c4 : Code := { maxStack := 3, maxLocals := 2, code := jdk_52_method_5_code, exceptionTable := #[], attributes := #[] }
def k9m4 : Method := { name := "getChar", desc := "([BI)C", sig := { parameters := [(.array .byte), .int], returnType := some .char }, accessFlags := 8, code := some k9c4 }
def k9c5 : Code := { maxStack := 2, maxLocals := 1, code := jdk_52_method_6_code, exceptionTable := #[], attributes := #[] }
def k9m5 : Method := { name := "length", desc := "([B)I", sig := { parameters := [(.array .byte)], returnType := some .int }, accessFlags := 9, code := some k9c5 }
def k9c6 : Code := { maxStack := 4, maxLocals := 5, code := jdk_52_method_14_code, exceptionTable := #[], attributes := #[] }
def k9m6 : Method := { name := "toBytes", desc := "([CII)[B", sig := { parameters := [(.array .char), .int, .int], returnType := some (.array .byte) }, accessFlags := 9, code := some k9c6 }
def k9c7 : Code := { maxStack := 2, maxLocals := 2, code := jdk_52_method_15_code, exceptionTable := #[], attributes := #[] }
def k9m7 : Method := { name := "coderFromArrayLen", desc := "([BI)B", sig := { parameters := [(.array .byte), .int], returnType := some .byte }, accessFlags := 8, code := some k9c7 }
def k9c8 : Code := { maxStack := 5, maxLocals := 6, code := jdk_52_method_16_code, exceptionTable := #[], attributes := #[] }
def k9m8 : Method := { name := "compress", desc := "([CII)[B", sig := { parameters := [(.array .char), .int, .int], returnType := some (.array .byte) }, accessFlags := 9, code := some k9c8 }
def k9c9 : Code := { maxStack := 3, maxLocals := 7, code := jdk_52_method_21_code, exceptionTable := #[], attributes := #[] }
def k9m9 : Method := { name := "compress", desc := "([CI[BII)I", sig := { parameters := [(.array .char), .int, (.array .byte), .int, .int], returnType := some .int }, accessFlags := 9, code := some k9c9 }
def k9c10 : Code := { maxStack := 2, maxLocals := 2, code := jdk_52_method_83_code, exceptionTable := #[], attributes := #[] }
def k9m10 : Method := { name := "charAt", desc := "([BI)C", sig := { parameters := [(.array .byte), .int], returnType := some .char }, accessFlags := 9, code := some k9c10 }
def k9c11 : Code := { maxStack := 2, maxLocals := 2, code := jdk_52_method_91_code, exceptionTable := #[], attributes := #[] }
def k9m11 : Method := { name := "checkIndex", desc := "(I[B)V", sig := { parameters := [.int, (.array .byte)], returnType := none }, accessFlags := 9, code := some k9c11 }
/-- java/lang/StringUTF16 -/
def k9 : Class := { plain "java/lang/StringUTF16" (some 0) with
  accessFlags := 48
  interfaces := #[]
  cf := some (fileOf pool9 12 #[.nestMembers #[627, 629, 369]] #[{ accessFlags := 0, nameIndex := 9, descriptorIndex := 10, attributes := #[] }, { accessFlags := 9, nameIndex := 109, descriptorIndex := 110, attributes := #[] }, { accessFlags := 9, nameIndex := 15, descriptorIndex := 16, attributes := #[] }, { accessFlags := 8, nameIndex := 113, descriptorIndex := 114, attributes := #[] }, { accessFlags := 8, nameIndex := 73, descriptorIndex := 74, attributes := #[] }, { accessFlags := 9, nameIndex := 50, descriptorIndex := 51, attributes := #[] }, { accessFlags := 9, nameIndex := 121, descriptorIndex := 122, attributes := #[] }, { accessFlags := 8, nameIndex := 261, descriptorIndex := 262, attributes := #[] }, { accessFlags := 9, nameIndex := 117, descriptorIndex := 122, attributes := #[] }, { accessFlags := 9, nameIndex := 117, descriptorIndex := 118, attributes := #[] }, { accessFlags := 9, nameIndex := 392, descriptorIndex := 74, attributes := #[] }, { accessFlags := 9, nameIndex := 69, descriptorIndex := 70, attributes := #[] }] 48 6 #[] #[{ accessFlags := 26, nameIndex := 61, descriptorIndex := 62, attributes := #[] }, { accessFlags := 26, nameIndex := 65, descriptorIndex := 62, attributes := #[] }, { accessFlags := 24, nameIndex := 430, descriptorIndex := 62, attributes := #[] }, { accessFlags := 4120, nameIndex := 46, descriptorIndex := 47, attributes := #[] }])
  fields := #[{ name := "HI_BYTE_SHIFT", type := .int, accessFlags := 26, slot := 0, constantValue := 0 }, { name := "LO_BYTE_SHIFT", type := .int, accessFlags := 26, slot := 1, constantValue := 0 }, { name := "MAX_LENGTH", type := .int, accessFlags := 24, slot := 2, constantValue := 0 }, { name := "$assertionsDisabled", type := .boolean, accessFlags := 4120, slot := 3, constantValue := 0 }]
  methods := #[k9m0, k9m1, k9m2, k9m3, k9m4, k9m5, k9m6, k9m7, k9m8, k9m9, k9m10, k9m11]
  instanceTypes := #[]
  staticTypes := #[.int, .int, .int, .boolean]
  resolved := Array.replicate 635 none
  statics := some 1 }

def pool10 : Array CpInfo := pool [(2, .class_ 4), (1, u "java/lang/Object"), (0, u "<init>"), (0, u "()V"), (17, .class_ 26), (1, u "jdk/internal/util/Preconditions"), (6, u "checkIndex"), (21, .class_ 56), (0, u "jdk/internal/util/Preconditions$4"), (57, .class_ 115), (0, u "jdk/internal/util/Preconditions$1"), (7, u "SIOOBE_FORMATTER"), (0, u "Ljava/util/function/BiFunction;"), (0, .class_ 126), (0, u "jdk/internal/util/Preconditions$2"), (3, u "AIOOBE_FORMATTER"), (0, .class_ 132), (0, u "jdk/internal/util/Preconditions$3"), (3, u "IOOBE_FORMATTER"), (41, u "(IILjava/util/function/BiFunction;)I")] 15

def k10m0 : Method := { name := "<init>", desc := "()V", sig := { parameters := [], returnType := none }, accessFlags := 1, code := none }
def k10c1 : Code := { maxStack := 3, maxLocals := 3, code := jdk_41_method_11_code, exceptionTable := #[], attributes := #[] }
def k10m1 : Method := { name := "checkIndex", desc := "(IILjava/util/function/BiFunction;)I", sig := { parameters := [.int, .int, (.object "java/util/function/BiFunction")], returnType := some .int }, accessFlags := 9, code := some k10c1 }
/-- jdk/internal/util/Preconditions -/
def k10 : Class := { plain "jdk/internal/util/Preconditions" (some 0) with
  accessFlags := 33
  interfaces := #[]
  cf := some (fileOf pool10 24 #[.nestMembers #[55, 131, 125, 114]] #[{ accessFlags := 1, nameIndex := 5, descriptorIndex := 6, attributes := #[] }, { accessFlags := 9, nameIndex := 33, descriptorIndex := 178, attributes := #[] }] 33 2 #[] #[{ accessFlags := 25, nameIndex := 123, descriptorIndex := 124, attributes := #[] }, { accessFlags := 25, nameIndex := 130, descriptorIndex := 124, attributes := #[] }, { accessFlags := 25, nameIndex := 136, descriptorIndex := 124, attributes := #[] }])
  fields := #[{ name := "SIOOBE_FORMATTER", type := (.object "java/util/function/BiFunction"), accessFlags := 25, slot := 0, constantValue := 0 }, { name := "AIOOBE_FORMATTER", type := (.object "java/util/function/BiFunction"), accessFlags := 25, slot := 1, constantValue := 0 }, { name := "IOOBE_FORMATTER", type := (.object "java/util/function/BiFunction"), accessFlags := 25, slot := 2, constantValue := 0 }]
  methods := #[k10m0, k10m1]
  instanceTypes := #[]
  staticTypes := #[(.object "java/util/function/BiFunction"), (.object "java/util/function/BiFunction"), (.object "java/util/function/BiFunction")]
  resolved := Array.replicate 194 none
  statics := some 2 }

def pool11 : Array CpInfo := pool [(1, .class_ 2), (0, u "java/lang/String"), (1, .class_ 6), (1, u "java/lang/Object"), (0, u "<init>"), (0, u "()V"), (0, .methodref 1 10), (0, .nameAndType 11 12), (0, u "checkIndex"), (0, u "(II)V"), (1, .class_ 16), (1, u "java/lang/StringLatin1"), (36, u "([BI)C"), (67, u "$assertionsDisabled"), (0, u "Z"), (98, .class_ 223), (1, u "java/lang/StringLatin1$LinesSpliterator"), (28, u "charAt"), (137, .class_ 391), (0, u "java/lang/StringLatin1$CharsSpliterator")] 3

def k11m0 : Method := { name := "<init>", desc := "()V", sig := { parameters := [], returnType := none }, accessFlags := 0, code := none }
def k11c1 : Code := { maxStack := 2, maxLocals := 2, code := jdk_43_method_2_code, exceptionTable := #[], attributes := #[] }
def k11m1 : Method := { name := "charAt", desc := "([BI)C", sig := { parameters := [(.array .byte), .int], returnType := some .char }, accessFlags := 9, code := some k11c1 }
/-- java/lang/StringLatin1 -/
def k11 : Class := { plain "java/lang/StringLatin1" (some 0) with
  accessFlags := 48
  interfaces := #[]
  cf := some (fileOf pool11 14 #[.nestMembers #[390, 221]] #[{ accessFlags := 0, nameIndex := 7, descriptorIndex := 8, attributes := #[] }, { accessFlags := 9, nameIndex := 252, descriptorIndex := 53, attributes := #[] }] 48 4 #[] #[{ accessFlags := 4120, nameIndex := 121, descriptorIndex := 122, attributes := #[] }])
  fields := #[{ name := "$assertionsDisabled", type := .boolean, accessFlags := 4120, slot := 0, constantValue := 0 }]
  methods := #[k11m0, k11m1]
  instanceTypes := #[]
  staticTypes := #[.boolean]
  resolved := Array.replicate 395 none
  statics := none }

def pool12 : Array CpInfo := pool [(9, u "<init>"), (6, .class_ 18), (1, u "java/lang/Object"), (0, u "()V"), (1, .class_ 23), (1, u "jdk/internal/util/ArraysSupport"), (0, u "LOG2_ARRAY_LONG_INDEX_SCALE"), (0, u "I"), (2, u "U"), (0, u "Ljdk/internal/misc/Unsafe;"), (8, u "BIG_ENDIAN"), (0, u "Z"), (8, u "LOG2_BYTE_BIT_SIZE"), (4, u "LOG2_ARRAY_INT_INDEX_SCALE"), (54, u "JLA"), (0, u "Ljdk/internal/access/JavaLangAccess;"), (11, u "LOG2_ARRAY_BOOLEAN_INDEX_SCALE"), (9, u "LOG2_ARRAY_BYTE_INDEX_SCALE"), (5, u "LOG2_ARRAY_CHAR_INDEX_SCALE"), (5, u "LOG2_ARRAY_SHORT_INDEX_SCALE"), (18, u "LOG2_ARRAY_FLOAT_INDEX_SCALE"), (24, u "LOG2_ARRAY_DOUBLE_INDEX_SCALE"), (89, u "T_BOOLEAN"), (2, u "T_CHAR"), (1, u "T_FLOAT"), (1, u "T_DOUBLE"), (1, u "T_BYTE"), (1, u "T_SHORT"), (1, u "T_INT"), (1, u "T_LONG"), (1, u "SOFT_MAX_ARRAY_LENGTH")] 83

def k12m0 : Method := { name := "<init>", desc := "()V", sig := { parameters := [], returnType := none }, accessFlags := 2, code := none }
/-- jdk/internal/util/ArraysSupport -/
def k12 : Class := { plain "jdk/internal/util/ArraysSupport" (some 0) with
  accessFlags := 33
  interfaces := #[]
  cf := some (fileOf pool12 21 #[] #[{ accessFlags := 2, nameIndex := 9, descriptorIndex := 19, attributes := #[] }] 33 16 #[] #[{ accessFlags := 24, nameIndex := 28, descriptorIndex := 29, attributes := #[] }, { accessFlags := 26, nameIndex := 38, descriptorIndex := 39, attributes := #[] }, { accessFlags := 25, nameIndex := 121, descriptorIndex := 25, attributes := #[] }, { accessFlags := 25, nameIndex := 131, descriptorIndex := 25, attributes := #[] }, { accessFlags := 25, nameIndex := 137, descriptorIndex := 25, attributes := #[] }, { accessFlags := 25, nameIndex := 143, descriptorIndex := 25, attributes := #[] }, { accessFlags := 25, nameIndex := 53, descriptorIndex := 25, attributes := #[] }, { accessFlags := 25, nameIndex := 24, descriptorIndex := 25, attributes := #[] }, { accessFlags := 25, nameIndex := 162, descriptorIndex := 25, attributes := #[] }, { accessFlags := 25, nameIndex := 187, descriptorIndex := 25, attributes := #[] }, { accessFlags := 26, nameIndex := 48, descriptorIndex := 25, attributes := #[] }, { accessFlags := 25, nameIndex := 277, descriptorIndex := 25, attributes := #[] }, { accessFlags := 25, nameIndex := 280, descriptorIndex := 25, attributes := #[] }, { accessFlags := 25, nameIndex := 282, descriptorIndex := 25, attributes := #[] }, { accessFlags := 25, nameIndex := 284, descriptorIndex := 25, attributes := #[] }, { accessFlags := 25, nameIndex := 286, descriptorIndex := 25, attributes := #[] }, { accessFlags := 25, nameIndex := 288, descriptorIndex := 25, attributes := #[] }, { accessFlags := 25, nameIndex := 290, descriptorIndex := 25, attributes := #[] }, { accessFlags := 25, nameIndex := 292, descriptorIndex := 25, attributes := #[] }, { accessFlags := 26, nameIndex := 108, descriptorIndex := 109, attributes := #[] }, { accessFlags := 25, nameIndex := 294, descriptorIndex := 25, attributes := #[] }])
  fields := #[{ name := "U", type := (.object "jdk/internal/misc/Unsafe"), accessFlags := 24, slot := 0, constantValue := 0 }, { name := "BIG_ENDIAN", type := .boolean, accessFlags := 26, slot := 1, constantValue := 0 }, { name := "LOG2_ARRAY_BOOLEAN_INDEX_SCALE", type := .int, accessFlags := 25, slot := 2, constantValue := 0 }, { name := "LOG2_ARRAY_BYTE_INDEX_SCALE", type := .int, accessFlags := 25, slot := 3, constantValue := 0 }, { name := "LOG2_ARRAY_CHAR_INDEX_SCALE", type := .int, accessFlags := 25, slot := 4, constantValue := 0 }, { name := "LOG2_ARRAY_SHORT_INDEX_SCALE", type := .int, accessFlags := 25, slot := 5, constantValue := 0 }, { name := "LOG2_ARRAY_INT_INDEX_SCALE", type := .int, accessFlags := 25, slot := 6, constantValue := 0 }, { name := "LOG2_ARRAY_LONG_INDEX_SCALE", type := .int, accessFlags := 25, slot := 7, constantValue := 0 }, { name := "LOG2_ARRAY_FLOAT_INDEX_SCALE", type := .int, accessFlags := 25, slot := 8, constantValue := 0 }, { name := "LOG2_ARRAY_DOUBLE_INDEX_SCALE", type := .int, accessFlags := 25, slot := 9, constantValue := 0 }, { name := "LOG2_BYTE_BIT_SIZE", type := .int, accessFlags := 26, slot := 10, constantValue := 0 }, { name := "T_BOOLEAN", type := .int, accessFlags := 25, slot := 11, constantValue := 0 }, { name := "T_CHAR", type := .int, accessFlags := 25, slot := 12, constantValue := 0 }, { name := "T_FLOAT", type := .int, accessFlags := 25, slot := 13, constantValue := 0 }, { name := "T_DOUBLE", type := .int, accessFlags := 25, slot := 14, constantValue := 0 }, { name := "T_BYTE", type := .int, accessFlags := 25, slot := 15, constantValue := 0 }, { name := "T_SHORT", type := .int, accessFlags := 25, slot := 16, constantValue := 0 }, { name := "T_INT", type := .int, accessFlags := 25, slot := 17, constantValue := 0 }, { name := "T_LONG", type := .int, accessFlags := 25, slot := 18, constantValue := 0 }, { name := "JLA", type := (.object "jdk/internal/access/JavaLangAccess"), accessFlags := 26, slot := 19, constantValue := 0 }, { name := "SOFT_MAX_ARRAY_LENGTH", type := .int, accessFlags := 25, slot := 20, constantValue := 0 }]
  methods := #[k12m0]
  instanceTypes := #[]
  staticTypes := #[(.object "jdk/internal/misc/Unsafe"), .boolean, .int, .int, .int, .int, .int, .int, .int, .int, .int, .int, .int, .int, .int, .int, .int, .int, .int, (.object "jdk/internal/access/JavaLangAccess"), .int]
  resolved := Array.replicate 378 none
  statics := none }

def pool13 : Array CpInfo := pool [(1, u "java/lang/Cloneable"), (0, .class_ 1), (0, u "java/lang/Object"), (0, .class_ 3)] 3

/-- java/lang/Cloneable -/
def k13 : Class := { plain "java/lang/Cloneable" (some 0) with
  accessFlags := 1537
  interfaces := #[]
  cf := some (fileOf pool13 2 #[] #[] 1537 4 #[] #[])
  fields := #[]
  methods := #[]
  instanceTypes := #[]
  staticTypes := #[]
  resolved := Array.replicate 8 none
  statics := none }

/-- the primitive byte -/
def k14 : Class := { plain "byte" none with kind := .primitive 'B', accessFlags := 0x411 }
/-- [B -/
def k15 : Class := { plain "[B" (some 0) with kind := .array 14 .byte, interfaces := #[13, 2], accessFlags := 1041 }

/-- the primitive char -/
def k16 : Class := { plain "char" none with kind := .primitive 'C', accessFlags := 0x411 }
/-- [C -/
def k17 : Class := { plain "[C" (some 0) with kind := .array 16 .char, interfaces := #[13, 2], accessFlags := 1041 }

/-- the primitive int -/
def k18 : Class := { plain "int" none with kind := .primitive 'I', accessFlags := 0x411 }
/-- [I -/
def k19 : Class := { plain "[I" (some 0) with kind := .array 18 .int, interfaces := #[13, 2], accessFlags := 1041 }

def heap : Heap := #[{ cls := 7, slots := #[.long 0, .int 1, .null, .int 0, .null, .int 0, .int 0], vm := .statics 7 },
  { cls := 9, slots := #[.int 0, .int 8, .int 0, .int 1], vm := .statics 9 },
  { cls := 10, slots := #[.null, .null, .null], vm := .statics 10 }]
def classes : Array Class := #[k0, k1, k2, k3, k4, k5, k6, k7, k8, k9, k10, k11, k12, k13, k14, k15, k16, k17, k18, k19]
def interned : List (Array UInt16 × Addr) := []
def slotsUsed : Nat := 14
def theMethod : MethodId := ⟨1, 1⟩
def args0 : Array Value := #[.int 5, .long 6, .long 7, .int 8]
def aboutOver (below : List Frame) : State where
  vm := { classes := classes, interned := interned.toArray }
  heap := heap
  slotsUsed := slotsUsed
  threads := #[{ frames := .invoking theMethod args0 :: below }]
def below0 : List Frame := [.native { method := ⟨0, 0⟩, args := #[] }]
def about1 : State := aboutOver below0
def p0 : Program := .bare "" "" ""
def e0 : Env := launch0.env 0 0 0
theorem w_frames : about1.frames = Frame.invoking theMethod args0 :: below0 := rfl
set_option maxRecDepth 65536 in
theorem w_args : argsFit about1.vm theMethod args0 = true := by decide +kernel
set_option maxRecDepth 65536 in
theorem w_heap : heapFits about1 = true := by decide +kernel
set_option maxRecDepth 65536 in
theorem w_runnable : about1.curStatus? = some .runnable := by decide +kernel
set_option maxRecDepth 65536 in
theorem w_alone : about1.alone = true := by decide +kernel
set_option maxRecDepth 65536 in
theorem w_named : about1.methodNamed? x = some theMethod := by decide +kernel
set_option maxRecDepth 65536 in
theorem w_hears : about1.hears theMethod below0 = true := by decide +kernel
set_option maxRecDepth 65536 in
theorem w_ripe : about1.ripe theMethod args0 below0 = true := by decide +kernel
theorem w_running : about1.status = .running := rfl
set_option maxRecDepth 65536 in
theorem w_room : about1.hasRoom e0.platform room_1 = true :=
  launch0.hasRoom_least _ room_1 (by decide +kernel) (by decide +kernel) (by decide +kernel) (by decide +kernel) (by decide +kernel) (by decide +kernel)
theorem allAtoms_all (ts : List Jvm.Cond) (a : Array Jvm.Value) (st : Jvm.State) : (allAtoms ts).before a st = ts.all (fun c => c.before a st) := by
  induction ts with
  | nil => rfl
  | cons c t ih =>
    show (Jvm.Cond.and c (allAtoms t)).before a st = _
    rw [Jvm.Cond.before_and, ih, List.all_cons]
def words1 : List Jvm.Cond := Jvm.Cond.code x code maxLocals ret :: tables_1
/-- a 'code' word, met by the world's own term for the bytes: nothing is compared byte by byte -/
theorem code_word {y : MethodName} {bytes : ByteArray} {mx : Nat} {rt : Option FieldType} {a : Array Value} {s : State} {m : MethodId} {meth : Method} {c : Code} (h1 : s.methodNamed? y = some m) (h2 : s.vm.method? m = some meth) (h3 : meth.code = some c) (h4 : c.code = bytes)
    (h5 : (c.maxLocals == mx && c.exceptionTable.isEmpty && decide (c.maxStack ≤ mostOperands) && decide (meth.sig.returnType = rt) && !meth.locks && decide (parseMethodDescriptor y.desc = some meth.sig)) = true) : (Jvm.Cond.code y bytes mx rt).before a s = true := by
  simp only [Bool.and_eq_true, beq_iff_eq, Bool.not_eq_true', decide_eq_true_eq] at h5
  obtain ⟨⟨⟨⟨⟨g1, g2⟩, g3⟩, g4⟩, g5⟩, g6⟩ := h5
  simp [Cond.before, Cond.holds, Cond.value, h1, h2, h3, h4, g1, g2, g3, g4, g5, g6]
def isCode : Jvm.Cond → Bool
  | .code _ _ _ _ => true
  | _ => false
theorem all_split {L : List Jvm.Cond} {P : Jvm.Cond → Bool} (h1 : L.all (fun c => isCode c || P c) = true) (h2 : ∀ c ∈ L.filter isCode, P c = true) : L.all P = true := by
  refine List.all_eq_true.mpr fun c hc => ?_
  have h := List.all_eq_true.mp h1 c hc
  rcases Bool.eq_false_or_eq_true (isCode c) with hi | hi
  · exact h2 c (List.mem_filter.mpr ⟨hc, hi⟩)
  · simpa [hi] using h
set_option maxRecDepth 65536 in
theorem w_c0 : (Jvm.Cond.code x code maxLocals ret).before args0 about1 = true := code_word (m := ⟨1, 1⟩) (meth := k1m1) (c := k1c1) (by decide +kernel) rfl rfl rfl (by decide +kernel)
set_option maxRecDepth 65536 in
theorem w_c1 : (Jvm.Cond.code ({ cls := "com/example/sober_commit/sobercommit/SeenTextsSlotPinLaw", name := "text", desc := "([CI)Ljava/lang/String;" } : Jvm.MethodName) method_3_code (2 : Nat) (Option.some (Jvm.ClassFile.FieldType.object "java/lang/String"))).before args0 about1 = true := code_word (m := ⟨1, 2⟩) (meth := k1m2) (c := k1c2) (by decide +kernel) rfl rfl rfl (by decide +kernel)
set_option maxRecDepth 65536 in
theorem w_c2 : (Jvm.Cond.code ({ cls := "java/lang/String", name := "<init>", desc := "([C)V" } : Jvm.MethodName) jdk_42_method_3_code (2 : Nat) (Option.none : Option Jvm.ClassFile.FieldType)).before args0 about1 = true := code_word (m := ⟨7, 1⟩) (meth := k7m1) (c := k7c1) (by decide +kernel) rfl rfl rfl (by decide +kernel)
set_option maxRecDepth 65536 in
theorem w_c3 : (Jvm.Cond.code ({ cls := "java/lang/String", name := "<init>", desc := "([CIILjava/lang/Void;)V" } : Jvm.MethodName) jdk_42_method_149_code (6 : Nat) (Option.none : Option Jvm.ClassFile.FieldType)).before args0 about1 = true := code_word (m := ⟨7, 4⟩) (meth := k7m4) (c := k7c4) (by decide +kernel) rfl rfl rfl (by decide +kernel)
set_option maxRecDepth 65536 in
theorem w_c4 : (Jvm.Cond.code ({ cls := "java/lang/Object", name := "<init>", desc := "()V" } : Jvm.MethodName) object_method_1_code (1 : Nat) (Option.none : Option Jvm.ClassFile.FieldType)).before args0 about1 = true := code_word (m := ⟨0, 0⟩) (meth := k0m0) (c := k0c0) (by decide +kernel) rfl rfl rfl (by decide +kernel)
set_option maxRecDepth 65536 in
theorem w_c5 : (Jvm.Cond.code ({ cls := "com/example/sober_commit/sobercommit/Dialect$SeenTexts", name := "slot", desc := "(Ljava/lang/String;)I" } : Jvm.MethodName) prog_9_method_4_code (4 : Nat) (Option.some Jvm.ClassFile.FieldType.int)).before args0 about1 = true := code_word (m := ⟨8, 1⟩) (meth := k8m1) (c := k8c1) (by decide +kernel) rfl rfl rfl (by decide +kernel)
set_option maxRecDepth 65536 in
theorem w_c6 : (Jvm.Cond.code ({ cls := "java/lang/String", name := "length", desc := "()I" } : Jvm.MethodName) jdk_42_method_54_code (1 : Nat) (Option.some Jvm.ClassFile.FieldType.int)).before args0 about1 = true := code_word (m := ⟨7, 2⟩) (meth := k7m2) (c := k7c2) (by decide +kernel) rfl rfl rfl (by decide +kernel)
set_option maxRecDepth 65536 in
theorem w_c7 : (Jvm.Cond.code ({ cls := "java/lang/String", name := "coder", desc := "()B" } : Jvm.MethodName) jdk_42_method_152_code (1 : Nat) (Option.some Jvm.ClassFile.FieldType.byte)).before args0 about1 = true := code_word (m := ⟨7, 5⟩) (meth := k7m5) (c := k7c5) (by decide +kernel) rfl rfl rfl (by decide +kernel)
set_option maxRecDepth 65536 in
theorem w_c8 : (Jvm.Cond.code ({ cls := "java/lang/StringUTF16", name := "compress", desc := "([CII)[B" } : Jvm.MethodName) jdk_52_method_16_code (6 : Nat) (Option.some (Jvm.ClassFile.FieldType.array Jvm.ClassFile.FieldType.byte))).before args0 about1 = true := code_word (m := ⟨9, 8⟩) (meth := k9m8) (c := k9c8) (by decide +kernel) rfl rfl rfl (by decide +kernel)
set_option maxRecDepth 65536 in
theorem w_c9 : (Jvm.Cond.code ({ cls := "java/lang/StringUTF16", name := "compress", desc := "([CI[BII)I" } : Jvm.MethodName) jdk_52_method_21_code (7 : Nat) (Option.some Jvm.ClassFile.FieldType.int)).before args0 about1 = true := code_word (m := ⟨9, 9⟩) (meth := k9m9) (c := k9c9) (by decide +kernel) rfl rfl rfl (by decide +kernel)
set_option maxRecDepth 65536 in
theorem w_c10 : (Jvm.Cond.code ({ cls := "java/lang/StringUTF16", name := "toBytes", desc := "([CII)[B" } : Jvm.MethodName) jdk_52_method_14_code (5 : Nat) (Option.some (Jvm.ClassFile.FieldType.array Jvm.ClassFile.FieldType.byte))).before args0 about1 = true := code_word (m := ⟨9, 6⟩) (meth := k9m6) (c := k9c6) (by decide +kernel) rfl rfl rfl (by decide +kernel)
set_option maxRecDepth 65536 in
theorem w_c11 : (Jvm.Cond.code ({ cls := "java/lang/StringUTF16", name := "newBytesFor", desc := "(I)[B" } : Jvm.MethodName) jdk_52_method_2_code (1 : Nat) (Option.some (Jvm.ClassFile.FieldType.array Jvm.ClassFile.FieldType.byte))).before args0 about1 = true := code_word (m := ⟨9, 1⟩) (meth := k9m1) (c := k9c1) (by decide +kernel) rfl rfl rfl (by decide +kernel)
set_option maxRecDepth 65536 in
theorem w_c12 : (Jvm.Cond.code ({ cls := "java/lang/StringUTF16", name := "newBytesLength", desc := "(I)I" } : Jvm.MethodName) jdk_52_method_3_code (1 : Nat) (Option.some Jvm.ClassFile.FieldType.int)).before args0 about1 = true := code_word (m := ⟨9, 2⟩) (meth := k9m2) (c := k9c2) (by decide +kernel) rfl rfl rfl (by decide +kernel)
set_option maxRecDepth 65536 in
theorem w_c13 : (Jvm.Cond.code ({ cls := "java/lang/StringUTF16", name := "putChar", desc := "([BII)V" } : Jvm.MethodName) jdk_52_method_4_code (3 : Nat) (Option.none : Option Jvm.ClassFile.FieldType)).before args0 about1 = true := code_word (m := ⟨9, 3⟩) (meth := k9m3) (c := k9c3) (by decide +kernel) rfl rfl rfl (by decide +kernel)
set_option maxRecDepth 65536 in
theorem w_c14 : (Jvm.Cond.code ({ cls := "java/lang/StringUTF16", name := "getChar", desc := "([BI)C" } : Jvm.MethodName) jdk_52_method_5_code (2 : Nat) (Option.some Jvm.ClassFile.FieldType.char)).before args0 about1 = true := code_word (m := ⟨9, 4⟩) (meth := k9m4) (c := k9c4) (by decide +kernel) rfl rfl rfl (by decide +kernel)
set_option maxRecDepth 65536 in
theorem w_c15 : (Jvm.Cond.code ({ cls := "java/lang/StringUTF16", name := "coderFromArrayLen", desc := "([BI)B" } : Jvm.MethodName) jdk_52_method_15_code (2 : Nat) (Option.some Jvm.ClassFile.FieldType.byte)).before args0 about1 = true := code_word (m := ⟨9, 7⟩) (meth := k9m7) (c := k9c7) (by decide +kernel) rfl rfl rfl (by decide +kernel)
set_option maxRecDepth 65536 in
theorem w_c16 : (Jvm.Cond.code ({ cls := "java/lang/String", name := "charAt", desc := "(I)C" } : Jvm.MethodName) jdk_42_method_56_code (2 : Nat) (Option.some Jvm.ClassFile.FieldType.char)).before args0 about1 = true := code_word (m := ⟨7, 3⟩) (meth := k7m3) (c := k7c3) (by decide +kernel) rfl rfl rfl (by decide +kernel)
set_option maxRecDepth 65536 in
theorem w_c17 : (Jvm.Cond.code ({ cls := "java/lang/String", name := "isLatin1", desc := "()Z" } : Jvm.MethodName) jdk_42_method_154_code (1 : Nat) (Option.some Jvm.ClassFile.FieldType.boolean)).before args0 about1 = true := code_word (m := ⟨7, 6⟩) (meth := k7m6) (c := k7c6) (by decide +kernel) rfl rfl rfl (by decide +kernel)
set_option maxRecDepth 65536 in
theorem w_c18 : (Jvm.Cond.code ({ cls := "java/lang/StringUTF16", name := "charAt", desc := "([BI)C" } : Jvm.MethodName) jdk_52_method_83_code (2 : Nat) (Option.some Jvm.ClassFile.FieldType.char)).before args0 about1 = true := code_word (m := ⟨9, 10⟩) (meth := k9m10) (c := k9c10) (by decide +kernel) rfl rfl rfl (by decide +kernel)
set_option maxRecDepth 65536 in
theorem w_c19 : (Jvm.Cond.code ({ cls := "java/lang/StringUTF16", name := "checkIndex", desc := "(I[B)V" } : Jvm.MethodName) jdk_52_method_91_code (2 : Nat) (Option.none : Option Jvm.ClassFile.FieldType)).before args0 about1 = true := code_word (m := ⟨9, 11⟩) (meth := k9m11) (c := k9c11) (by decide +kernel) rfl rfl rfl (by decide +kernel)
set_option maxRecDepth 65536 in
theorem w_c20 : (Jvm.Cond.code ({ cls := "java/lang/StringUTF16", name := "length", desc := "([B)I" } : Jvm.MethodName) jdk_52_method_6_code (1 : Nat) (Option.some Jvm.ClassFile.FieldType.int)).before args0 about1 = true := code_word (m := ⟨9, 5⟩) (meth := k9m5) (c := k9c5) (by decide +kernel) rfl rfl rfl (by decide +kernel)
set_option maxRecDepth 65536 in
theorem w_c21 : (Jvm.Cond.code ({ cls := "java/lang/String", name := "checkIndex", desc := "(II)V" } : Jvm.MethodName) jdk_42_method_155_code (2 : Nat) (Option.none : Option Jvm.ClassFile.FieldType)).before args0 about1 = true := code_word (m := ⟨7, 7⟩) (meth := k7m7) (c := k7c7) (by decide +kernel) rfl rfl rfl (by decide +kernel)
set_option maxRecDepth 65536 in
theorem w_c22 : (Jvm.Cond.code ({ cls := "jdk/internal/util/Preconditions", name := "checkIndex", desc := "(IILjava/util/function/BiFunction;)I" } : Jvm.MethodName) jdk_41_method_11_code (3 : Nat) (Option.some Jvm.ClassFile.FieldType.int)).before args0 about1 = true := code_word (m := ⟨10, 1⟩) (meth := k10m1) (c := k10c1) (by decide +kernel) rfl rfl rfl (by decide +kernel)
set_option maxRecDepth 65536 in
theorem w_c23 : (Jvm.Cond.code ({ cls := "java/lang/StringLatin1", name := "charAt", desc := "([BI)C" } : Jvm.MethodName) jdk_43_method_2_code (2 : Nat) (Option.some Jvm.ClassFile.FieldType.char)).before args0 about1 = true := code_word (m := ⟨11, 1⟩) (meth := k11m1) (c := k11c1) (by decide +kernel) rfl rfl rfl (by decide +kernel)
def codes1 : List Jvm.Cond := [Jvm.Cond.code x code maxLocals ret, Jvm.Cond.code ({ cls := "com/example/sober_commit/sobercommit/SeenTextsSlotPinLaw", name := "text", desc := "([CI)Ljava/lang/String;" } : Jvm.MethodName) method_3_code (2 : Nat) (Option.some (Jvm.ClassFile.FieldType.object "java/lang/String")), Jvm.Cond.code ({ cls := "java/lang/String", name := "<init>", desc := "([C)V" } : Jvm.MethodName) jdk_42_method_3_code (2 : Nat) (Option.none : Option Jvm.ClassFile.FieldType), Jvm.Cond.code ({ cls := "java/lang/String", name := "<init>", desc := "([CIILjava/lang/Void;)V" } : Jvm.MethodName) jdk_42_method_149_code (6 : Nat) (Option.none : Option Jvm.ClassFile.FieldType), Jvm.Cond.code ({ cls := "java/lang/Object", name := "<init>", desc := "()V" } : Jvm.MethodName) object_method_1_code (1 : Nat) (Option.none : Option Jvm.ClassFile.FieldType), Jvm.Cond.code ({ cls := "com/example/sober_commit/sobercommit/Dialect$SeenTexts", name := "slot", desc := "(Ljava/lang/String;)I" } : Jvm.MethodName) prog_9_method_4_code (4 : Nat) (Option.some Jvm.ClassFile.FieldType.int), Jvm.Cond.code ({ cls := "java/lang/String", name := "length", desc := "()I" } : Jvm.MethodName) jdk_42_method_54_code (1 : Nat) (Option.some Jvm.ClassFile.FieldType.int), Jvm.Cond.code ({ cls := "java/lang/String", name := "coder", desc := "()B" } : Jvm.MethodName) jdk_42_method_152_code (1 : Nat) (Option.some Jvm.ClassFile.FieldType.byte), Jvm.Cond.code ({ cls := "java/lang/StringUTF16", name := "compress", desc := "([CII)[B" } : Jvm.MethodName) jdk_52_method_16_code (6 : Nat) (Option.some (Jvm.ClassFile.FieldType.array Jvm.ClassFile.FieldType.byte)), Jvm.Cond.code ({ cls := "java/lang/StringUTF16", name := "compress", desc := "([CI[BII)I" } : Jvm.MethodName) jdk_52_method_21_code (7 : Nat) (Option.some Jvm.ClassFile.FieldType.int), Jvm.Cond.code ({ cls := "java/lang/StringUTF16", name := "toBytes", desc := "([CII)[B" } : Jvm.MethodName) jdk_52_method_14_code (5 : Nat) (Option.some (Jvm.ClassFile.FieldType.array Jvm.ClassFile.FieldType.byte)), Jvm.Cond.code ({ cls := "java/lang/StringUTF16", name := "newBytesFor", desc := "(I)[B" } : Jvm.MethodName) jdk_52_method_2_code (1 : Nat) (Option.some (Jvm.ClassFile.FieldType.array Jvm.ClassFile.FieldType.byte)), Jvm.Cond.code ({ cls := "java/lang/StringUTF16", name := "newBytesLength", desc := "(I)I" } : Jvm.MethodName) jdk_52_method_3_code (1 : Nat) (Option.some Jvm.ClassFile.FieldType.int), Jvm.Cond.code ({ cls := "java/lang/StringUTF16", name := "putChar", desc := "([BII)V" } : Jvm.MethodName) jdk_52_method_4_code (3 : Nat) (Option.none : Option Jvm.ClassFile.FieldType), Jvm.Cond.code ({ cls := "java/lang/StringUTF16", name := "getChar", desc := "([BI)C" } : Jvm.MethodName) jdk_52_method_5_code (2 : Nat) (Option.some Jvm.ClassFile.FieldType.char), Jvm.Cond.code ({ cls := "java/lang/StringUTF16", name := "coderFromArrayLen", desc := "([BI)B" } : Jvm.MethodName) jdk_52_method_15_code (2 : Nat) (Option.some Jvm.ClassFile.FieldType.byte), Jvm.Cond.code ({ cls := "java/lang/String", name := "charAt", desc := "(I)C" } : Jvm.MethodName) jdk_42_method_56_code (2 : Nat) (Option.some Jvm.ClassFile.FieldType.char), Jvm.Cond.code ({ cls := "java/lang/String", name := "isLatin1", desc := "()Z" } : Jvm.MethodName) jdk_42_method_154_code (1 : Nat) (Option.some Jvm.ClassFile.FieldType.boolean), Jvm.Cond.code ({ cls := "java/lang/StringUTF16", name := "charAt", desc := "([BI)C" } : Jvm.MethodName) jdk_52_method_83_code (2 : Nat) (Option.some Jvm.ClassFile.FieldType.char), Jvm.Cond.code ({ cls := "java/lang/StringUTF16", name := "checkIndex", desc := "(I[B)V" } : Jvm.MethodName) jdk_52_method_91_code (2 : Nat) (Option.none : Option Jvm.ClassFile.FieldType), Jvm.Cond.code ({ cls := "java/lang/StringUTF16", name := "length", desc := "([B)I" } : Jvm.MethodName) jdk_52_method_6_code (1 : Nat) (Option.some Jvm.ClassFile.FieldType.int), Jvm.Cond.code ({ cls := "java/lang/String", name := "checkIndex", desc := "(II)V" } : Jvm.MethodName) jdk_42_method_155_code (2 : Nat) (Option.none : Option Jvm.ClassFile.FieldType), Jvm.Cond.code ({ cls := "jdk/internal/util/Preconditions", name := "checkIndex", desc := "(IILjava/util/function/BiFunction;)I" } : Jvm.MethodName) jdk_41_method_11_code (3 : Nat) (Option.some Jvm.ClassFile.FieldType.int), Jvm.Cond.code ({ cls := "java/lang/StringLatin1", name := "charAt", desc := "([BI)C" } : Jvm.MethodName) jdk_43_method_2_code (2 : Nat) (Option.some Jvm.ClassFile.FieldType.char)]
set_option maxRecDepth 65536 in
theorem codes_eq : words1.filter isCode = codes1 := rfl
theorem w_codes : ∀ c ∈ words1.filter isCode, c.before args0 about1 = true := by
  rw [codes_eq]
  intro c hc
  simp only [codes1, List.mem_cons, List.not_mem_nil, or_false] at hc
  rcases hc with rfl | rfl | rfl | rfl | rfl | rfl | rfl | rfl | rfl | rfl | rfl | rfl | rfl | rfl | rfl | rfl | rfl | rfl | rfl | rfl | rfl | rfl | rfl | rfl
  · exact w_c0
  · exact w_c1
  · exact w_c2
  · exact w_c3
  · exact w_c4
  · exact w_c5
  · exact w_c6
  · exact w_c7
  · exact w_c8
  · exact w_c9
  · exact w_c10
  · exact w_c11
  · exact w_c12
  · exact w_c13
  · exact w_c14
  · exact w_c15
  · exact w_c16
  · exact w_c17
  · exact w_c18
  · exact w_c19
  · exact w_c20
  · exact w_c21
  · exact w_c22
  · exact w_c23
set_option maxRecDepth 65536 in
theorem w_t1 : (words1.take 24).all (fun c => isCode c || c.before args0 about1) = true := by decide +kernel
set_option maxRecDepth 65536 in
theorem w_t2 : ((words1.drop 24).take 24).all (fun c => isCode c || c.before args0 about1) = true := by decide +kernel
set_option maxRecDepth 65536 in
theorem w_t3 : (((words1.drop 24).drop 24).take 24).all (fun c => isCode c || c.before args0 about1) = true := by decide +kernel
set_option maxRecDepth 65536 in
theorem w_t4 : ((((words1.drop 24).drop 24).drop 24).take 24).all (fun c => isCode c || c.before args0 about1) = true := by decide +kernel
set_option maxRecDepth 65536 in
theorem w_t5 : ((((words1.drop 24).drop 24).drop 24).drop 24).all (fun c => isCode c || c.before args0 about1) = true := by decide +kernel
theorem w_tables : (allAtoms (Jvm.Cond.code x code maxLocals ret :: tables_1)).before args0 about1 = true := by
  rw [allAtoms_all]
  show words1.all (fun c => c.before args0 about1) = true
  refine all_split ?_ w_codes
  rw [← List.take_append_drop 24 words1, List.all_append, w_t1, ← List.take_append_drop 24 (words1.drop 24), List.all_append, w_t2, ← List.take_append_drop 24 ((words1.drop 24).drop 24), List.all_append, w_t3, ← List.take_append_drop 24 (((words1.drop 24).drop 24).drop 24), List.all_append, w_t4, w_t5]
  rfl
set_option maxRecDepth 65536 in
theorem w_rest : rest_1_c.before args0 about1 = true := by decide +kernel
set_option maxRecDepth 65536 in
theorem w_case : (Jvm.Cond.and given_1 narrow_1).before args0 about1 = true := by decide +kernel
set_option maxRecDepth 65536 in
theorem w_consts : constsHeld consts_1 about1 := Jvm.Lit.constsHeldB_iff.mp (by decide +kernel)
theorem w_applies : (headSpec (Jvm.Cond.code x code maxLocals ret :: tables_1) room_1).applies x e0.platform about1 = true :=
  (Spec.applies_iff w_frames).mpr ⟨w_running, w_runnable, w_alone, w_named, w_hears, w_ripe, w_room, w_tables⟩
theorem atStart : AtStart classFile x code maxLocals ret World_1 tables_1 room_1 Calls_1 rest_1 Pre_1 launch0 p0 e0 about1 theMethod args0 below0 :=
  ⟨lists_1, trivial, launch0.admits_env _ _ _, launch0.least_env, fairChoices_fair.cas, fairChoices_fair.clock, w_frames, w_args, w_heap, w_applies, ⟨w_consts, trivial⟩, w_rest, w_case⟩
end start1
theorem witness_1 : WitnessClaimed_1 := ⟨start1.p0, start1.e0, start1.about1, start1.theMethod, start1.args0, start1.below0, start1.atStart⟩
end Jvm.Pilot.@@N@@
