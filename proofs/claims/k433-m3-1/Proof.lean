import JvmDerived
import JvmDerived.Pilot.@@N@@Statement
import JvmDerived.Pilot.@@N@@Code
set_option linter.unusedVariables false
set_option linter.unusedSimpArgs false
namespace Jvm.Pilot.@@N@@
open Jvm Jvm.ClassFile Sem Op Lib Jvm.Free Jvm.Stand Jvm.LawKit Jvm.RoadKit Bundle Jvm.Pilot.@@N@@.Jvm.D
section WK
/-! A walk's standing goal in one word: wkP says that from this frame over this heap the body ends as Q says. -/
abbrev EL : List (String × Nat) := consts_1
abbrev wkB : Type := MethodName × ByteArray × Nat × Option FieldType
/-- the cells that may be written: made since the case's start, no literal's, made by this body or handed in as such -/
def wkSf (Z : State) (vm : Vm) (h hs : Heap) (w0 ws : List Addr) : Prop := ∀ x ∈ ws, Z.heap.size ≤ x ∧ x < h.size ∧ Safe Z EL vm h x ∧ (x ∈ w0 ∨ hs.size ≤ x)
def wkAt (p : Program) (l : Launch) (e : Env) (R : Room) (s : State) (m : MethodId) (args : Array Value) (below : List Frame) (meth : Method) (c : Code) (Z : State) (B : wkB) (hs : Heap) (w0 ws : List Addr) (h : Heap) (k n : Nat) (vm0 : Vm) (k0 : Nat) (T : State) (locs : List Loc) : Prop :=
  (p.tables.exec = Jvm.exec ∧ c.code = B.2.1 ∧ c.maxLocals = B.2.2.1 ∧ meth.sig.returnType = B.2.2.2 ∧ meth.locks = false ∧ meth.name = B.1.name) ∧
  Stand p l e R (s.setVm vm0) m args below meth c T locs k n ∧ T.heap = h ∧ (s.Since vm0 k0 ∧ k0 ≤ h.size) ∧ Z.Warmed39 vm0 ∧ vm0.findClass B.1.cls = some m.cls ∧ CHr Z EL s.vm s.heap vm0 h ∧ Fr Z.heap.size locs ∧ Old Z Z.heap.size h ∧ Keep hs h w0 ∧ wkSf Z vm0 h hs w0 ws
def wkEnd (R : Room) (s Z : State) (hs : Heap) (w0 : List Addr) (Q : Option Value → Heap → List Addr → Prop) (U : State) (o : Outcome) : Prop :=
  ∃ v L, o = .returned v ∧ (∃ os, Q v U.heap os ∧ Keep hs U.heap w0 ∧ Fr Z.heap.size L ∧ Old Z Z.heap.size U.heap ∧ wkSf Z U.vm U.heap hs w0 os) ∧ CHr Z EL s.vm s.heap U.vm U.heap ∧ ReturnedEndW s o U L R.cells R.slots
def wkP (l : Launch) (Z : State) (B : wkB) (R : Room) (hs : Heap) (w0 : List Addr) (Q : Option Value → Heap → List Addr → Prop) (ws : List Addr) (h : Heap) (k n pc : Nat) (Ls : Array Slot) (st : List Value) : Prop :=
  ∀ (p : Program) (e : Env) (s : State) (m : MethodId) (args : Array Value) (below : List Frame) (meth : Method) (c : Code) (vm0 : Vm) (k0 : Nat) (T : State) (locs : List Loc), wkAt p l e R s m args below meth c Z B hs w0 ws h k n vm0 k0 T locs →
    ∃ (U : State) (o : Outcome), Steps p.tables e below (T.setTop (mkF m pc Ls st)) U ∧ U.status = .running ∧ Ended U below o ∧ wkEnd R s Z hs w0 Q U o
/-- a body's contract: with these arguments over this heap, writing at most w0 of what stood, it returns as Q says -/
def wkM (l : Launch) (Z : State) (B : wkB) (rm : Room) (as : Array Value) (h : Heap) (w0 : List Addr) (Q : Option Value → Heap → List Addr → Prop) : Prop :=
  Old Z Z.heap.size h → (∀ x ∈ w0, Z.heap.size ≤ x ∧ x < h.size) →
  MetFree l B.1 (head1 [Cond.code B.1 B.2.1 B.2.2.1 B.2.2.2] rm) (fun a U => a = as ∧ Z.Warmed39 U.vm ∧ U.heap = h ∧ CHv Z EL U.vm h ∧ ∀ x ∈ w0, Safe Z EL U.vm h x) (fun _ _ _ _ _ => True) (fun _ U o U' => wkEnd rm U Z h w0 Q U' o)
section Rules
variable {l : Launch} {Z : State} {B : wkB} {R : Room} {hs : Heap} {w0 : List Addr} {Q : Option Value → Heap → List Addr → Prop} {ws : List Addr} {h : Heap} {k n pc : Nat} {Ls : Array Slot} {st : List Value} {a0 : Array Value}
theorem wkP.pure {pc' : Nat} {Ls' : Array Slot} {st' : List Value}
    (hst : ∀ (p : Program) (e : Env) (s : State) (m : MethodId) (args : Array Value) (below : List Frame) (meth : Method) (c : Code) (vm0 : Vm) (T : State) (locs : List Loc), p.tables.exec = Jvm.exec → c.code = B.2.1 → Stand p l e R (s.setVm vm0) m args below meth c T locs k n → ∀ target, Steps p.tables e below (T.setTop (mkF m pc' Ls' st')) target → Steps p.tables e below (T.setTop (mkF m pc Ls st)) target)
    (K : wkP l Z B R hs w0 Q ws h k n pc' Ls' st') : wkP l Z B R hs w0 Q ws h k n pc Ls st := by
  intro p e s m args below meth c vm0 k0 T locs A
  obtain ⟨U, o, q, r⟩ := K p e s m args below meth c vm0 k0 T locs A
  exact ⟨U, o, hst p e s m args below meth c vm0 T locs A.1.1 A.1.2.1 A.2.1 U q, r⟩
theorem wkP.iload (pc' : Nat) {j : Nat} {v : Int32} (hd : decode B.2.1 pc = .ok (.iload j, 2)) (hl : Ls[j]? = some (.val (.int v))) (hp : pc + 2 = pc') (K : wkP l Z B R hs w0 Q ws h k n pc' Ls (.int v :: st)) : wkP l Z B R hs w0 Q ws h k n pc Ls st := by
  subst hp; exact .pure (fun p e s m args below meth c vm0 T locs hx hby X t q => XS.iload X.here hx rfl (hb hby hd) hl q) K
theorem wkP.iloadN (pc' : Nat) {j : Fin 4} {v : Int32} (hd : decode B.2.1 pc = .ok (.iload_n j, 1)) (hl : Ls[j.val]? = some (.val (.int v))) (hp : pc + 1 = pc') (K : wkP l Z B R hs w0 Q ws h k n pc' Ls (.int v :: st)) : wkP l Z B R hs w0 Q ws h k n pc Ls st := by
  subst hp; exact .pure (fun p e s m args below meth c vm0 T locs hx hby X t q => XS.iloadN X.here hx rfl (hb hby hd) hl q) K
theorem wkP.aload (pc' : Nat) {j : Nat} {v : Value} (hd : decode B.2.1 pc = .ok (.aload j, 2)) (hl : Ls[j]? = some (.val v)) (hv : v.isRef = true) (hp : pc + 2 = pc') (K : wkP l Z B R hs w0 Q ws h k n pc' Ls (v :: st)) : wkP l Z B R hs w0 Q ws h k n pc Ls st := by
  subst hp; exact .pure (fun p e s m args below meth c vm0 T locs hx hby X t q => XS.aload X.here hx rfl (hb hby hd) hl hv q) K
theorem wkP.aloadN (pc' : Nat) {j : Fin 4} {v : Value} (hd : decode B.2.1 pc = .ok (.aload_n j, 1)) (hl : Ls[j.val]? = some (.val v)) (hv : v.isRef = true) (hp : pc + 1 = pc') (K : wkP l Z B R hs w0 Q ws h k n pc' Ls (v :: st)) : wkP l Z B R hs w0 Q ws h k n pc Ls st := by
  subst hp; exact .pure (fun p e s m args below meth c vm0 T locs hx hby X t q => XS.aloadN X.here hx rfl (hb hby hd) hl hv q) K
theorem wkP.lload (pc' : Nat) {j : Nat} {v : Int64} (hd : decode B.2.1 pc = .ok (.lload j, 2)) (hl : Ls[j]? = some (.val (.long v))) (hp : pc + 2 = pc') (K : wkP l Z B R hs w0 Q ws h k n pc' Ls (.long v :: st)) : wkP l Z B R hs w0 Q ws h k n pc Ls st := by
  subst hp; exact .pure (fun p e s m args below meth c vm0 T locs hx hby X t q => XS.lload X.here hx rfl (hb hby hd) hl q) K
theorem wkP.lloadN (pc' : Nat) {j : Fin 4} {v : Int64} (hd : decode B.2.1 pc = .ok (.lload_n j, 1)) (hl : Ls[j.val]? = some (.val (.long v))) (hp : pc + 1 = pc') (K : wkP l Z B R hs w0 Q ws h k n pc' Ls (.long v :: st)) : wkP l Z B R hs w0 Q ws h k n pc Ls st := by
  subst hp; exact .pure (fun p e s m args below meth c vm0 T locs hx hby X t q => XS.lloadN X.here hx rfl (hb hby hd) hl q) K
theorem wkP.iconst (pc' : Nat) {i : Int} (v : Int32) (hd : decode B.2.1 pc = .ok (.iconst i, 1)) (hv : Int32.ofInt i = v) (hp : pc + 1 = pc') (K : wkP l Z B R hs w0 Q ws h k n pc' Ls (.int v :: st)) : wkP l Z B R hs w0 Q ws h k n pc Ls st := by
  subst hp hv; exact .pure (fun p e s m args below meth c vm0 T locs hx hby X t q => XS.iconst X.here hx rfl (hb hby hd) q) K
theorem wkP.bipush (pc' : Nat) {i : Int} (v : Int32) (hd : decode B.2.1 pc = .ok (.bipush i, 2)) (hv : (Int8.ofInt i).toInt32 = v) (hp : pc + 2 = pc') (K : wkP l Z B R hs w0 Q ws h k n pc' Ls (.int v :: st)) : wkP l Z B R hs w0 Q ws h k n pc Ls st := by
  subst hp hv; exact .pure (fun p e s m args below meth c vm0 T locs hx hby X t q => XS.bipush X.here hx rfl (hb hby hd) q) K
theorem wkP.sipush (pc' : Nat) {i : Int} (v : Int32) (hd : decode B.2.1 pc = .ok (.sipush i, 3)) (hv : (Int16.ofInt i).toInt32 = v) (hp : pc + 3 = pc') (K : wkP l Z B R hs w0 Q ws h k n pc' Ls (.int v :: st)) : wkP l Z B R hs w0 Q ws h k n pc Ls st := by
  subst hp hv; exact .pure (fun p e s m args below meth c vm0 T locs hx hby X t q => XS.sipush X.here hx rfl (hb hby hd) q) K
theorem wkP.anull (pc' : Nat) (hd : decode B.2.1 pc = .ok (.aconst_null, 1)) (hp : pc + 1 = pc') (K : wkP l Z B R hs w0 Q ws h k n pc' Ls (.null :: st)) : wkP l Z B R hs w0 Q ws h k n pc Ls st := by
  subst hp; exact .pure (fun p e s m args below meth c vm0 T locs hx hby X t q => XS.aconstNull X.here hx rfl (hb hby hd) q) K
theorem wkP.istore (pc' : Nat) {j : Nat} {x : Int32} (Ls' : Array Slot) (hd : decode B.2.1 pc = .ok (.istore j, 2)) (hl : storeLocals Ls j (.int x) = some Ls') (hp : pc + 2 = pc') (K : wkP l Z B R hs w0 Q ws h k n pc' Ls' st) : wkP l Z B R hs w0 Q ws h k n pc Ls (.int x :: st) := by
  subst hp; exact .pure (fun p e s m args below meth c vm0 T locs hx hby X t q => XS.istore X.here hx rfl (hb hby hd) rfl hl q) K
theorem wkP.istoreN (pc' : Nat) {j : Fin 4} {x : Int32} (Ls' : Array Slot) (hd : decode B.2.1 pc = .ok (.istore_n j, 1)) (hl : storeLocals Ls j.val (.int x) = some Ls') (hp : pc + 1 = pc') (K : wkP l Z B R hs w0 Q ws h k n pc' Ls' st) : wkP l Z B R hs w0 Q ws h k n pc Ls (.int x :: st) := by
  subst hp; exact .pure (fun p e s m args below meth c vm0 T locs hx hby X t q => XS.istoreN X.here hx rfl (hb hby hd) rfl hl q) K
theorem wkP.astore (pc' : Nat) {j : Nat} {x : Value} (Ls' : Array Slot) (hd : decode B.2.1 pc = .ok (.astore j, 2)) (hv : x.isRef = true) (hl : storeLocals Ls j x = some Ls') (hp : pc + 2 = pc') (K : wkP l Z B R hs w0 Q ws h k n pc' Ls' st) : wkP l Z B R hs w0 Q ws h k n pc Ls (x :: st) := by
  subst hp; exact .pure (fun p e s m args below meth c vm0 T locs hx hby X t q => XS.astore X.here hx rfl (hb hby hd) rfl hv hl q) K
theorem wkP.astoreN (pc' : Nat) {j : Fin 4} {x : Value} (Ls' : Array Slot) (hd : decode B.2.1 pc = .ok (.astore_n j, 1)) (hv : x.isRef = true) (hl : storeLocals Ls j.val x = some Ls') (hp : pc + 1 = pc') (K : wkP l Z B R hs w0 Q ws h k n pc' Ls' st) : wkP l Z B R hs w0 Q ws h k n pc Ls (x :: st) := by
  subst hp; exact .pure (fun p e s m args below meth c vm0 T locs hx hby X t q => XS.astoreN X.here hx rfl (hb hby hd) rfl hv hl q) K
theorem wkP.lstore (pc' : Nat) {j : Nat} {x : Int64} (Ls' : Array Slot) (hd : decode B.2.1 pc = .ok (.lstore j, 2)) (hl : storeLocals Ls j (.long x) = some Ls') (hp : pc + 2 = pc') (K : wkP l Z B R hs w0 Q ws h k n pc' Ls' st) : wkP l Z B R hs w0 Q ws h k n pc Ls (.long x :: st) := by
  subst hp; exact .pure (fun p e s m args below meth c vm0 T locs hx hby X t q => XS.lstore X.here hx rfl (hb hby hd) rfl hl q) K
theorem wkP.iinc (pc' : Nat) {j : Nat} {cst : Int} {x : Int32} (y : Int32) (Ls' : Array Slot) (hd : decode B.2.1 pc = .ok (.iinc j cst, 3)) (hl : Ls[j]? = some (.val (.int x))) (hy : x + Int32.ofInt cst = y) (hl' : storeLocals Ls j (.int y) = some Ls') (hp : pc + 3 = pc') (K : wkP l Z B R hs w0 Q ws h k n pc' Ls' st) : wkP l Z B R hs w0 Q ws h k n pc Ls st := by
  subst hp hy; exact .pure (fun p e s m args below meth c vm0 T locs hx hby X t q => XS.iinc X.here hx rfl (hb hby hd) hl hl' q) K
theorem wkP.dup (pc' : Nat) {x : Value} (hd : decode B.2.1 pc = .ok (.dup, 1)) (hc : x.category = 1) (hp : pc + 1 = pc') (K : wkP l Z B R hs w0 Q ws h k n pc' Ls (x :: x :: st)) : wkP l Z B R hs w0 Q ws h k n pc Ls (x :: st) := by
  subst hp; exact .pure (fun p e s m args below meth c vm0 T locs hx hby X t q => XS.dup X.here hx rfl (hb hby hd) rfl hc q) K
theorem wkP.dupX1 (pc' : Nat) {x y : Value} (hd : decode B.2.1 pc = .ok (.dup_x1, 1)) (hc : x.category = 1) (hc' : y.category = 1) (hp : pc + 1 = pc') (K : wkP l Z B R hs w0 Q ws h k n pc' Ls (x :: y :: x :: st)) : wkP l Z B R hs w0 Q ws h k n pc Ls (x :: y :: st) := by
  subst hp; exact .pure (fun p e s m args below meth c vm0 T locs hx hby X t q => XS.dupX1 X.here hx rfl (hb hby hd) rfl hc hc' q) K
theorem wkP.pop (pc' : Nat) {x : Value} (hd : decode B.2.1 pc = .ok (.pop, 1)) (hc : x.category = 1) (hp : pc + 1 = pc') (K : wkP l Z B R hs w0 Q ws h k n pc' Ls st) : wkP l Z B R hs w0 Q ws h k n pc Ls (x :: st) := by
  subst hp; exact .pure (fun p e s m args below meth c vm0 T locs hx hby X t q => XS.pop X.here hx rfl (hb hby hd) rfl hc q) K
theorem wkP.iadd (pc' : Nat) {x y : Int32} (v : Int32) (hd : decode B.2.1 pc = .ok (.iadd, 1)) (hv : x + y = v) (hp : pc + 1 = pc') (K : wkP l Z B R hs w0 Q ws h k n pc' Ls (.int v :: st)) : wkP l Z B R hs w0 Q ws h k n pc Ls (.int y :: .int x :: st) := by
  subst hp hv; exact .pure (fun p e s m args below meth c vm0 T locs hx hby X t q => XS.iadd X.here hx rfl (hb hby hd) rfl q) K
theorem wkP.isub (pc' : Nat) {x y : Int32} (v : Int32) (hd : decode B.2.1 pc = .ok (.isub, 1)) (hv : x - y = v) (hp : pc + 1 = pc') (K : wkP l Z B R hs w0 Q ws h k n pc' Ls (.int v :: st)) : wkP l Z B R hs w0 Q ws h k n pc Ls (.int y :: .int x :: st) := by
  subst hp hv; exact .pure (fun p e s m args below meth c vm0 T locs hx hby X t q => XS.isub X.here hx rfl (hb hby hd) rfl q) K
theorem wkP.imul (pc' : Nat) {x y : Int32} (v : Int32) (hd : decode B.2.1 pc = .ok (.imul, 1)) (hv : x * y = v) (hp : pc + 1 = pc') (K : wkP l Z B R hs w0 Q ws h k n pc' Ls (.int v :: st)) : wkP l Z B R hs w0 Q ws h k n pc Ls (.int y :: .int x :: st) := by
  subst hp hv; exact .pure (fun p e s m args below meth c vm0 T locs hx hby X t q => XS.imul X.here hx rfl (hb hby hd) rfl q) K
theorem wkP.idiv (pc' : Nat) {x y : Int32} (v : Int32) (hd : decode B.2.1 pc = .ok (.idiv, 1)) (hy : y ≠ 0) (hv : x / y = v) (hp : pc + 1 = pc') (K : wkP l Z B R hs w0 Q ws h k n pc' Ls (.int v :: st)) : wkP l Z B R hs w0 Q ws h k n pc Ls (.int y :: .int x :: st) := by
  subst hp hv; exact .pure (fun p e s m args below meth c vm0 T locs hx hby X t q => XS.idiv X.here hx rfl (hb hby hd) rfl hy q) K
theorem wkP.irem (pc' : Nat) {x y : Int32} (v : Int32) (hd : decode B.2.1 pc = .ok (.irem, 1)) (hy : y ≠ 0) (hv : x % y = v) (hp : pc + 1 = pc') (K : wkP l Z B R hs w0 Q ws h k n pc' Ls (.int v :: st)) : wkP l Z B R hs w0 Q ws h k n pc Ls (.int y :: .int x :: st) := by
  subst hp hv; exact .pure (fun p e s m args below meth c vm0 T locs hx hby X t q => iremM X hx rfl (hb hby hd) rfl hy q) K
theorem wkP.iand (pc' : Nat) {x y : Int32} (v : Int32) (hd : decode B.2.1 pc = .ok (.iand, 1)) (hv : x &&& y = v) (hp : pc + 1 = pc') (K : wkP l Z B R hs w0 Q ws h k n pc' Ls (.int v :: st)) : wkP l Z B R hs w0 Q ws h k n pc Ls (.int y :: .int x :: st) := by
  subst hp hv; exact .pure (fun p e s m args below meth c vm0 T locs hx hby X t q => XS.iand X.here hx rfl (hb hby hd) rfl q) K
theorem wkP.ior (pc' : Nat) {x y : Int32} (v : Int32) (hd : decode B.2.1 pc = .ok (.ior, 1)) (hv : x ||| y = v) (hp : pc + 1 = pc') (K : wkP l Z B R hs w0 Q ws h k n pc' Ls (.int v :: st)) : wkP l Z B R hs w0 Q ws h k n pc Ls (.int y :: .int x :: st) := by
  subst hp hv; exact .pure (fun p e s m args below meth c vm0 T locs hx hby X t q => XS.ior X.here hx rfl (hb hby hd) rfl q) K
theorem wkP.ishl (pc' : Nat) {x y : Int32} (v : Int32) (hd : decode B.2.1 pc = .ok (.ishl, 1)) (hv : x <<< (y &&& 31) = v) (hp : pc + 1 = pc') (K : wkP l Z B R hs w0 Q ws h k n pc' Ls (.int v :: st)) : wkP l Z B R hs w0 Q ws h k n pc Ls (.int y :: .int x :: st) := by
  subst hp hv; exact .pure (fun p e s m args below meth c vm0 T locs hx hby X t q => XS.ishl X.here hx rfl (hb hby hd) rfl q) K
theorem wkP.ishr (pc' : Nat) {x y : Int32} (v : Int32) (hd : decode B.2.1 pc = .ok (.ishr, 1)) (hv : x >>> (y &&& 31) = v) (hp : pc + 1 = pc') (K : wkP l Z B R hs w0 Q ws h k n pc' Ls (.int v :: st)) : wkP l Z B R hs w0 Q ws h k n pc Ls (.int y :: .int x :: st) := by
  subst hp hv; exact .pure (fun p e s m args below meth c vm0 T locs hx hby X t q => XS.ishr X.here hx rfl (hb hby hd) rfl q) K
theorem wkP.iushr (pc' : Nat) {x y : Int32} (v : Int32) (hd : decode B.2.1 pc = .ok (.iushr, 1)) (hv : (x.toUInt32 >>> (y &&& 31).toUInt32).toInt32 = v) (hp : pc + 1 = pc') (K : wkP l Z B R hs w0 Q ws h k n pc' Ls (.int v :: st)) : wkP l Z B R hs w0 Q ws h k n pc Ls (.int y :: .int x :: st) := by
  subst hp hv; exact .pure (fun p e s m args below meth c vm0 T locs hx hby X t q => XS.iushr X.here hx rfl (hb hby hd) rfl q) K
theorem wkP.i2b (pc' : Nat) {x : Int32} (v : Int32) (hd : decode B.2.1 pc = .ok (.i2b, 1)) (hv : x.toInt8.toInt32 = v) (hp : pc + 1 = pc') (K : wkP l Z B R hs w0 Q ws h k n pc' Ls (.int v :: st)) : wkP l Z B R hs w0 Q ws h k n pc Ls (.int x :: st) := by
  subst hp hv; exact .pure (fun p e s m args below meth c vm0 T locs hx hby X t q => XS.i2b X.here hx rfl (hb hby hd) rfl q) K
theorem wkP.i2c (pc' : Nat) {x : Int32} (v : Int32) (hd : decode B.2.1 pc = .ok (.i2c, 1)) (hv : x.toUInt32.toUInt16.toUInt32.toInt32 = v) (hp : pc + 1 = pc') (K : wkP l Z B R hs w0 Q ws h k n pc' Ls (.int v :: st)) : wkP l Z B R hs w0 Q ws h k n pc Ls (.int x :: st) := by
  subst hp hv; exact .pure (fun p e s m args below meth c vm0 T locs hx hby X t q => XS.i2c X.here hx rfl (hb hby hd) rfl q) K
theorem wkP.i2l (pc' : Nat) {x : Int32} (v : Int64) (hd : decode B.2.1 pc = .ok (.i2l, 1)) (hv : x.toInt64 = v) (hp : pc + 1 = pc') (K : wkP l Z B R hs w0 Q ws h k n pc' Ls (.long v :: st)) : wkP l Z B R hs w0 Q ws h k n pc Ls (.int x :: st) := by
  subst hp hv; exact .pure (fun p e s m args below meth c vm0 T locs hx hby X t q => XS.i2l X.here hx rfl (hb hby hd) rfl q) K
theorem wkP.l2i (pc' : Nat) {x : Int64} (v : Int32) (hd : decode B.2.1 pc = .ok (.l2i, 1)) (hv : x.toInt32 = v) (hp : pc + 1 = pc') (K : wkP l Z B R hs w0 Q ws h k n pc' Ls (.int v :: st)) : wkP l Z B R hs w0 Q ws h k n pc Ls (.long x :: st) := by
  subst hp hv; exact .pure (fun p e s m args below meth c vm0 T locs hx hby X t q => XS.l2i X.here hx rfl (hb hby hd) rfl q) K
theorem wkP.lmul (pc' : Nat) {x y : Int64} (v : Int64) (hd : decode B.2.1 pc = .ok (.lmul, 1)) (hv : x * y = v) (hp : pc + 1 = pc') (K : wkP l Z B R hs w0 Q ws h k n pc' Ls (.long v :: st)) : wkP l Z B R hs w0 Q ws h k n pc Ls (.long y :: .long x :: st) := by
  subst hp hv; exact .pure (fun p e s m args below meth c vm0 T locs hx hby X t q => XS.lmul X.here hx rfl (hb hby hd) rfl q) K
theorem wkP.land (pc' : Nat) {x y : Int64} (v : Int64) (hd : decode B.2.1 pc = .ok (.land, 1)) (hv : x &&& y = v) (hp : pc + 1 = pc') (K : wkP l Z B R hs w0 Q ws h k n pc' Ls (.long v :: st)) : wkP l Z B R hs w0 Q ws h k n pc Ls (.long y :: .long x :: st) := by
  subst hp hv; exact .pure (fun p e s m args below meth c vm0 T locs hx hby X t q => XS.land X.here hx rfl (hb hby hd) rfl q) K
theorem wkP.lushr (pc' : Nat) {x : Int64} {y : Int32} (v : Int64) (hd : decode B.2.1 pc = .ok (.lushr, 1)) (hv : (x.toUInt64 >>> (y &&& 0x3f).toInt64.toUInt64).toInt64 = v) (hp : pc + 1 = pc') (K : wkP l Z B R hs w0 Q ws h k n pc' Ls (.long v :: st)) : wkP l Z B R hs w0 Q ws h k n pc Ls (.int y :: .long x :: st) := by
  subst hp hv; exact .pure (fun p e s m args below meth c vm0 T locs hx hby X t q => XS.lushr X.here hx rfl (hb hby hd) rfl q) K
theorem wkP.goto (pc' : Nat) {o : Int} (hd : decode B.2.1 pc = .ok (.goto o, 3)) (ho : 0 ≤ (pc : Int) + o) (hp : ((pc : Int) + o).toNat = pc') (K : wkP l Z B R hs w0 Q ws h k n pc' Ls st) : wkP l Z B R hs w0 Q ws h k n pc Ls st :=
  .pure (fun p e s m args below meth c vm0 T locs hx hby X t q => XS.goto X.here hx rfl (pc0 := pc) rfl (hb hby hd) ho hp q) K
/-- what a comparison's letters mean -/
abbrev wkC : ClassFile.Cond → Int32 → Int32 → Prop
  | .eq, x, y => x = y
  | .ne, x, y => ¬ x = y
  | .lt, x, y => x < y
  | .ge, x, y => ¬ x < y
  | .gt, x, y => y < x
  | .le, x, y => ¬ y < x
theorem wkC_t {cd : ClassFile.Cond} {x y : Int32} (q : wkC cd x y) : if_icmp.holds cd x y = true := by
  cases cd
  · exact (teq q).1
  · exact (feq q).2
  · exact (tlt q).1
  · exact (flt q).2.1
  · exact (tlt q).2.2.1
  · exact (flt q).2.2.2
theorem wkC_f {cd : ClassFile.Cond} {x y : Int32} (q : ¬ wkC cd x y) : if_icmp.holds cd x y = false := by
  cases cd
  · exact (feq q).1
  · exact (teq (Decidable.not_not.mp q)).2
  · exact (flt q).1
  · exact (tlt (Decidable.not_not.mp q)).2.1
  · exact (flt q).2.2.1
  · exact (tlt (Decidable.not_not.mp q)).2.2.2
theorem wkP.icmpT (pc' : Nat) {cd : ClassFile.Cond} {x y : Int32} {o : Int} (hd : decode B.2.1 pc = .ok (.if_icmp cd o, 3)) (q : wkC cd x y) (ho : 0 ≤ (pc : Int) + o) (hp : ((pc : Int) + o).toNat = pc') (K : wkP l Z B R hs w0 Q ws h k n pc' Ls st) : wkP l Z B R hs w0 Q ws h k n pc Ls (.int y :: .int x :: st) :=
  .pure (fun p e s m args below meth c vm0 T locs hx hby X t r => XS.icmpYes X.here hx rfl (pc0 := pc) rfl (hb hby hd) rfl (wkC_t q) ho hp r) K
theorem wkP.icmpF (pc' : Nat) {cd : ClassFile.Cond} {x y : Int32} {o : Int} (hd : decode B.2.1 pc = .ok (.if_icmp cd o, 3)) (q : ¬ wkC cd x y) (hp : pc + 3 = pc') (K : wkP l Z B R hs w0 Q ws h k n pc' Ls st) : wkP l Z B R hs w0 Q ws h k n pc Ls (.int y :: .int x :: st) := by
  subst hp; exact .pure (fun p e s m args below meth c vm0 T locs hx hby X t r => XS.icmpNo X.here hx rfl (hb hby hd) rfl (wkC_f q) r) K
theorem wkP.ifT (pc' : Nat) {cd : ClassFile.Cond} {x : Int32} {o : Int} (hd : decode B.2.1 pc = .ok (.ifCond cd o, 3)) (q : wkC cd x 0) (ho : 0 ≤ (pc : Int) + o) (hp : ((pc : Int) + o).toNat = pc') (K : wkP l Z B R hs w0 Q ws h k n pc' Ls st) : wkP l Z B R hs w0 Q ws h k n pc Ls (.int x :: st) :=
  .pure (fun p e s m args below meth c vm0 T locs hx hby X t r => XS.ifYes X.here hx rfl (pc0 := pc) rfl (hb hby hd) rfl ((if0 _ _).trans (wkC_t q)) ho hp r) K
theorem wkP.ifF (pc' : Nat) {cd : ClassFile.Cond} {x : Int32} {o : Int} (hd : decode B.2.1 pc = .ok (.ifCond cd o, 3)) (q : ¬ wkC cd x 0) (hp : pc + 3 = pc') (K : wkP l Z B R hs w0 Q ws h k n pc' Ls st) : wkP l Z B R hs w0 Q ws h k n pc Ls (.int x :: st) := by
  subst hp; exact .pure (fun p e s m args below meth c vm0 T locs hx hby X t r => XS.ifNo X.here hx rfl (hb hby hd) rfl ((if0 _ _).trans (wkC_f q)) r) K
theorem wkP.ifnullT (pc' : Nat) {o : Int} (hd : decode B.2.1 pc = .ok (.ifnull o, 3)) (ho : 0 ≤ (pc : Int) + o) (hp : ((pc : Int) + o).toNat = pc') (K : wkP l Z B R hs w0 Q ws h k n pc' Ls st) : wkP l Z B R hs w0 Q ws h k n pc Ls (.null :: st) :=
  .pure (fun p e s m args below meth c vm0 T locs hx hby X t r => XS.ifnullYes X.here hx rfl (pc0 := pc) rfl (hb hby hd) rfl ho hp r) K
theorem wkP.ifnullF (pc' : Nat) {o : Int} {a : Addr} (hd : decode B.2.1 pc = .ok (.ifnull o, 3)) (hp : pc + 3 = pc') (K : wkP l Z B R hs w0 Q ws h k n pc' Ls st) : wkP l Z B R hs w0 Q ws h k n pc Ls (.ref a :: st) := by
  subst hp; exact .pure (fun p e s m args below meth c vm0 T locs hx hby X t r => XS.ifnullNo X.here hx rfl (hb hby hd) rfl r) K
theorem wkP.ifnonnullT (pc' : Nat) {o : Int} {a : Addr} (hd : decode B.2.1 pc = .ok (.ifnonnull o, 3)) (ho : 0 ≤ (pc : Int) + o) (hp : ((pc : Int) + o).toNat = pc') (K : wkP l Z B R hs w0 Q ws h k n pc' Ls st) : wkP l Z B R hs w0 Q ws h k n pc Ls (.ref a :: st) :=
  .pure (fun p e s m args below meth c vm0 T locs hx hby X t r => XS.ifnonnullYes X.here hx rfl (pc0 := pc) rfl (hb hby hd) rfl ho hp r) K
theorem wkP.ifnonnullF (pc' : Nat) {o : Int} (hd : decode B.2.1 pc = .ok (.ifnonnull o, 3)) (hp : pc + 3 = pc') (K : wkP l Z B R hs w0 Q ws h k n pc' Ls st) : wkP l Z B R hs w0 Q ws h k n pc Ls (.null :: st) := by
  subst hp; exact .pure (fun p e s m args below meth c vm0 T locs hx hby X t r => XS.ifnonnullNo X.here hx rfl (hb hby hd) rfl r) K
theorem wkP.acmp (pc' : Nat) {cd : ACond} {x y : Value} {o : Int} (same : Bool) (hd : decode B.2.1 pc = .ok (.if_acmp cd o, 3)) (h1 : x.isRef = true) (h2 : y.isRef = true) (hq : decide (x = y) = same) (ho : 0 ≤ (pc : Int) + o) (hp : pc' = if acV cd same = true then ((pc : Int) + o).toNat else pc + 3) (K : wkP l Z B R hs w0 Q ws h k n pc' Ls st) : wkP l Z B R hs w0 Q ws h k n pc Ls (y :: x :: st) :=
  .pure (fun p e s m args below meth c vm0 T locs hx hby X t r => RoadKit.acmp X hx rfl h1 h2 (pc0 := pc) rfl (hb hby hd) rfl hq ho hp r) K
end Rules

section Facts
variable {Z : State} {h h' : Heap} {a b : Addr} {ty ty' : FieldType} {xs : List Int32} {ws : List Addr} {a0 : Array Value} {C D O n d : String} {v w : Value}
theorem nn0 {x : Nat} : x ∉ ([] : List Nat) := by simp
theorem nn1 {x y : Nat} (q : x ≠ y) : x ∉ [y] := by simpa using q
theorem nnS {x y : Nat} {L : List Nat} (q : x ≠ y) (r : x ∉ L) : x ∉ y :: L := by simpa using ⟨q, r⟩
/-- the array at a holds just these ints -/
def Ia (Z : State) (h : Heap) (a : Addr) (ty : FieldType) (xs : List Int32) : Prop := ∃ c : Cell, Arr Z h a c ty ∧ c.slots = (xs.map Value.int).toArray ∧ (∀ x ∈ xs, fits ty (.int x) = true) ∧ xs.length < 2 ^ 31
theorem exaLt (E : Exa Z h a C) : h.size > a := E.lt
theorem Ia.lt (F : Ia Z h a ty xs) : h.size > a := by obtain ⟨c, A, -⟩ := F; exact A.lt
theorem Ia.keep (F : Ia Z h a ty xs) (K : Keep h h' ws) (q : a ∉ ws) : Ia Z h' a ty xs := by
  obtain ⟨c, A, r⟩ := F; exact ⟨c, ⟨K.2.1 _ _ A.1 q, A.2⟩, r⟩
theorem Ia.len (F : Ia Z h a ty xs) : xs.length < 2 ^ 31 := by obtain ⟨c, -, -, -, r⟩ := F; exact r
theorem Ia.fit (F : Ia Z h a ty xs) : ∀ x ∈ xs, fits ty (.int x) = true := by obtain ⟨c, -, -, r, -⟩ := F; exact r
theorem Ia.of_arv {k : ClassId} {z : Int32} {vs : List Value} (F : Arv Z h a k ty z vs v) (e : vs = xs.map Value.int) (hl : z.toNatClampNeg = vs.length) : Ia Z h a ty xs := by
  obtain ⟨c, A, -, hs, hz, H, G⟩ := F
  subst e
  have hsz : c.slots.size = xs.length := by rw [hs, hl]; simp
  have hb := (back32 hz).2
  refine ⟨c, A, ?_, fun x hx => ?_, by rw [← hsz, hs]; exact hb⟩
  · refine Array.ext (by simpa using hsz) fun i h1 h2 => ?_
    have q := H i h1
    rw [Array.getElem?_eq_getElem h1] at q
    have h3 : i < xs.length := by omega
    simp [List.getD_eq_getElem?_getD, h3] at q ⊢
    exact q
  · obtain ⟨i, hi, rfl⟩ := List.getElem_of_mem hx
    have q := G i (by omega)
    simpa [List.getD_eq_getElem?_getD, hi] using q
theorem Ia.arv (F : Ia Z h a ty xs) : ∃ k, Arv Z h a k ty (Int32.ofNat xs.length) (xs.map Value.int) (.int 0) := by
  obtain ⟨c, A, e, f, r⟩ := F
  have q : (Int32.ofNat xs.length).toNatClampNeg = xs.length := clamp_of rfl r
  have sz : c.slots.size = xs.length := by rw [e]; simp
  refine ⟨c.cls, c, A, rfl, by rw [q, sz], ?_, fun i hi => ?_, fun i hi => ?_⟩
  · have := toInt_of (n := Int32.ofNat xs.length) rfl r
    rw [Int32.lt_iff_toInt_lt, this]; simp
  · rw [e]; simp [List.getD_eq_getElem?_getD, show i < xs.length by omega]
  · have h3 : i < xs.length := by omega
    simpa [List.getD_eq_getElem?_getD, h3] using f _ (List.getElem_mem h3)
theorem Ia.ne (F : Ia Z h a ty xs) {ys : List Int32} (G : Ia Z h b ty' ys) (q : ty ≠ ty') : a ≠ b := fun e => by
  subst e
  obtain ⟨c, A, -⟩ := F
  obtain ⟨c', A', -⟩ := G
  cases A.1.symm.trans A'.1
  obtain ⟨-, k1, q1, c1, r1⟩ := A.2.1
  obtain ⟨-, k2, q2, c2, r2⟩ := A'.2.1
  cases q1.symm.trans q2
  rw [r1] at r2
  injection r2 with _ r3
  exact q r3
theorem exaNeIa {kk : Nat} (E : Exa Z h a C) (wi : (Cond.instantiable C kk).before a0 Z = true) (G : Ia Z h b ty xs) : a ≠ b := by
  obtain ⟨c, A, -⟩ := G
  exact ne_arr E wi A
end Facts
section Rules2
variable {l : Launch} {Z : State} {B : wkB} {R : Room} {hs : Heap} {w0 : List Addr} {Q : Option Value → Heap → List Addr → Prop} {ws : List Addr} {h : Heap} {k n pc : Nat} {Ls : Array Slot} {st : List Value} {a0 : Array Value}
variable {p : Program} {e : Env} {s : State} {m : MethodId} {args : Array Value} {below : List Frame} {meth : Method} {c : Code} {vm0 : Vm} {k0 : Nat} {T T' : State} {locs : List Loc} {h' : Heap} {k' n' : Nat} {a : Addr} {sl : Nat} {v : Value}
theorem keepExt {hh h1 : Heap} (E : Ext hh h1) : Keep hh h1 [] := (Keep.refl _ _).ext E
theorem wkAt.same (A : wkAt p l e R s m args below meth c Z B hs w0 ws h k n vm0 k0 T locs) (X' : Stand p l e R (s.setVm vm0) m args below meth c T' locs k n) (e' : T'.heap = h) : wkAt p l e R s m args below meth c Z B hs w0 ws h k n vm0 k0 T' locs :=
  ⟨A.1, X', e', A.2.2.2⟩
theorem wkAt.ext (A : wkAt p l e R s m args below meth c Z B hs w0 ws h k n vm0 k0 T locs) (X' : Stand p l e R (s.setVm vm0) m args below meth c T' locs k' n') (e' : T'.heap = h') (E : Ext h h') : wkAt p l e R s m args below meth c Z B hs w0 ws h' k' n' vm0 k0 T' locs := by
  obtain ⟨a1, -, -, ⟨a4, a5⟩, a6, a7, a8, a9, a10, a11, a12⟩ := A
  exact ⟨a1, X', e', ⟨a4, Nat.le_trans a5 E.1⟩, a6, a7, a8.trans (CHr.ext E a8.1), a9, a10.ext E, a11.ext E, fun x hx => ⟨(a12 x hx).1, Nat.lt_of_lt_of_le (a12 x hx).2.1 E.1, Safe.ext E a8.1 (a12 x hx).2.2.1, (a12 x hx).2.2.2⟩⟩
theorem wkAt.push (A : wkAt p l e R s m args below meth c Z B hs w0 ws h k n vm0 k0 T locs) (X' : Stand p l e R (s.setVm vm0) m args below meth c T' locs k' n') (e' : T'.heap = h') (E : Ext h h') (ha : h.size ≤ a) (hb : a < h'.size) : wkAt p l e R s m args below meth c Z B hs w0 (a :: ws) h' k' n' vm0 k0 T' locs := by
  have q := A.ext X' e' E
  obtain ⟨a1, -, -, ⟨a4, a5⟩, a6, a7, a8, a9, a10, a11, a12⟩ := A
  obtain ⟨b1, b2, b3, b4, b5, b6, b7, b8, b9, b10, b11⟩ := q
  refine ⟨b1, b2, b3, b4, b5, b6, b7, b8, b9, b10, fun x hx => ?_⟩
  rcases List.mem_cons.mp hx with rfl | hx
  · exact ⟨Nat.le_trans a10.2.1 ha, hb, Safe.ext E a8.1 (Safe.new ha), Or.inr (Nat.le_trans a11.1 ha)⟩
  · exact b11 x hx
theorem wkAt.wr (A : wkAt p l e R s m args below meth c Z B hs w0 ws h k n vm0 k0 T locs) (X' : Stand p l e R (s.setVm vm0) m args below meth c T' (locs ++ [⟨a, sl⟩]) k n) (e' : T'.heap = h') (W : Wr h h' a sl v) (ha : a ∈ ws) : wkAt p l e R s m args below meth c Z B hs w0 ws h' k n vm0 k0 T' (locs ++ [⟨a, sl⟩]) := by
  obtain ⟨a1, -, -, ⟨a4, a5⟩, a6, a7, a8, a9, a10, a11, a12⟩ := A
  obtain ⟨s1, s2, s3, s4⟩ := a12 a ha
  have hsz := W.size
  exact ⟨a1, X', e', ⟨a4, by rw [hsz]; exact a5⟩, a6, a7, a8.trans (CHr.wr W s3 a8.1), Fr.app a9 (fun y hy => by simp at hy; rw [hy]; exact s1), a10.wr W s1, a11.wr W s4, fun x hx => ⟨(a12 x hx).1, by rw [hsz]; exact (a12 x hx).2.1, Safe.wr W s3 a8.1 (a12 x hx).2.2.1, (a12 x hx).2.2.2⟩⟩
theorem wkP.more {k1 n1 : Nat} (hk : k ≤ k1) (hn : n ≤ n1) (K : wkP l Z B R hs w0 Q ws h k1 n1 pc Ls st) : wkP l Z B R hs w0 Q ws h k n pc Ls st := by
  intro p e s m args below meth c vm0 k0 T locs A
  exact K p e s m args below meth c vm0 k0 T locs ⟨A.1, A.2.1.more hk hn, A.2.2⟩
theorem wkP.sub {ws1 : List Addr} (q : ∀ x ∈ ws1, x ∈ ws) (K : wkP l Z B R hs w0 Q ws1 h k n pc Ls st) : wkP l Z B R hs w0 Q ws h k n pc Ls st := by
  intro p e s m args below meth c vm0 k0 T locs A
  obtain ⟨b1, b2, b3, b4, b5, b6, b7, b8, b9, b10, b11⟩ := A
  exact K p e s m args below meth c vm0 k0 T locs ⟨b1, b2, b3, b4, b5, b6, b7, b8, b9, b10, fun x hx => b11 x (q x hx)⟩
/-- what is known wherever a walk stands -/
theorem wkP.know (K : (∀ x ∈ ws, Z.heap.size ≤ x ∧ x < h.size) → Z.heap.size ≤ h.size → Keep hs h w0 → wkP l Z B R hs w0 Q ws h k n pc Ls st) : wkP l Z B R hs w0 Q ws h k n pc Ls st := by
  intro p e s m args below meth c vm0 k0 T locs A
  obtain ⟨b1, b2, b3, b4, b5, b6, b7, b8, b9, b10, b11⟩ := A
  exact K (fun x hx => ⟨(b11 x hx).1, (b11 x hx).2.1⟩) b9.2.1 b10 p e s m args below meth c vm0 k0 T locs ⟨b1, b2, b3, b4, b5, b6, b7, b8, b9, b10, b11⟩
theorem wkP.getF (pc' : Nat) {index : Nat} {R0 O nm d : String} (w : (Cond.fieldLink B.1.cls index R0 nm d).before a0 Z = true) (F : Fld Z h a O nm d v) (via : Via Z R0 O nm d) (hd : decode B.2.1 pc = .ok (.getfield index, 3)) (hp : pc + 3 = pc') (K : wkP l Z B R hs w0 Q ws h k n pc' Ls (v :: st)) : wkP l Z B R hs w0 Q ws h k n pc Ls (.ref a :: st) := by
  subst hp
  intro p e s m args below meth c vm0 k0 T locs A
  obtain ⟨T', X', e', stp⟩ := RoadKit.getF A.2.1 A.1.1 A.2.2.2.2.1 A.2.2.2.2.2.1 (host := "") (Or.inl w) via A.2.2.1 F (g := mkF m pc Ls (.ref a :: st)) rfl rfl (hb A.1.2.1 hd)
  obtain ⟨U, o, q, r⟩ := K p e s m args below meth c vm0 k0 T' locs (A.same X' e')
  exact ⟨U, o, stp _ q, r⟩
theorem wkP.getS (pc' : Nat) {index : Nat} {R0 O nm d : String} (w : (Cond.fieldLink B.1.cls index R0 nm d).before a0 Z = true) (F : Sta Z Z.heap O nm d v) (via : Via Z R0 O nm d) (hd : decode B.2.1 pc = .ok (.getstatic index, 3)) (hp : pc + 3 = pc') (K : wkP l Z B R hs w0 Q ws h k n pc' Ls (v :: st)) : wkP l Z B R hs w0 Q ws h k n pc Ls st := by
  subst hp
  intro p e s m args below meth c vm0 k0 T locs A
  obtain ⟨T', X', e', stp⟩ := RoadKit.getS A.2.1 A.1.1 A.2.2.2.2.1 A.2.2.2.2.2.1 (host := "") w via A.2.2.1 (F.ext A.2.2.2.2.2.2.2.2.1.2) (g := mkF m pc Ls st) rfl (hb A.1.2.1 hd)
  obtain ⟨U, o, q, r⟩ := K p e s m args below meth c vm0 k0 T' locs (A.same X' e')
  exact ⟨U, o, stp _ q, r⟩
theorem wkP.castY (pc' : Nat) {index : Nat} {C : String} (w : (Cond.classLink B.1.cls index C).before a0 Z = true) (F : Ins Z h a C true) (hd : decode B.2.1 pc = .ok (.checkcast index, 3)) (hp : pc + 3 = pc') (K : wkP l Z B R hs w0 Q ws h k n pc' Ls (.ref a :: st)) : wkP l Z B R hs w0 Q ws h k n pc Ls (.ref a :: st) := by
  subst hp
  intro p e s m args below meth c vm0 k0 T locs A
  obtain ⟨T', X', e', stp⟩ := RoadKit.castY A.2.1 A.1.1 A.2.2.2.2.1 A.2.2.2.2.2.1 w A.2.2.1 F (g := mkF m pc Ls (.ref a :: st)) rfl rfl (hb A.1.2.1 hd)
  obtain ⟨U, o, q, r⟩ := K p e s m args below meth c vm0 k0 T' locs (A.same X' e')
  exact ⟨U, o, stp _ q, r⟩
theorem wkP.instY (pc' : Nat) {index : Nat} {C : String} (w : (Cond.classLink B.1.cls index C).before a0 Z = true) (F : Ins Z h a C true) (hd : decode B.2.1 pc = .ok (.instanceof index, 3)) (hp : pc + 3 = pc') (K : wkP l Z B R hs w0 Q ws h k n pc' Ls (.int 1 :: st)) : wkP l Z B R hs w0 Q ws h k n pc Ls (.ref a :: st) := by
  subst hp
  intro p e s m args below meth c vm0 k0 T locs A
  obtain ⟨T', X', e', stp⟩ := RoadKit.instY A.2.1 A.1.1 A.2.2.2.2.1 A.2.2.2.2.2.1 w A.2.2.1 F (g := mkF m pc Ls (.ref a :: st)) rfl rfl (hb A.1.2.1 hd)
  obtain ⟨U, o, q, r⟩ := K p e s m args below meth c vm0 k0 T' locs (A.same X' e')
  exact ⟨U, o, stp _ q, r⟩
theorem wkP.ldcI (pc' : Nat) {index : Nat} {v : Int32} (w : (Cond.constant B.1.cls index v).before a0 Z = true) (hd : decode B.2.1 pc = .ok (.ldc index, 2)) (hp : pc + 2 = pc') (K : wkP l Z B R hs w0 Q ws h k n pc' Ls (.int v :: st)) : wkP l Z B R hs w0 Q ws h k n pc Ls st := by
  subst hp
  intro p e s m args below meth c vm0 k0 T locs A
  obtain ⟨U, o, q, r⟩ := K p e s m args below meth c vm0 k0 T locs A
  exact ⟨U, o, A.2.1.ldcInt A.1.1 (own := B.1.cls) A.2.2.2.2.2.1 (mvT (s := s.setVm vm0) A.2.2.2.2.1 w) (g := mkF m pc Ls st) rfl (hb A.1.2.1 hd) _ q, r⟩
theorem wkP.ldcL (pc' : Nat) {index : Nat} {v : Int64} (w : (Cond.constantLong B.1.cls index v).before a0 Z = true) (hd : decode B.2.1 pc = .ok (.ldc2_w index, 3)) (hp : pc + 3 = pc') (K : wkP l Z B R hs w0 Q ws h k n pc' Ls (.long v :: st)) : wkP l Z B R hs w0 Q ws h k n pc Ls st := by
  subst hp
  intro p e s m args below meth c vm0 k0 T locs A
  obtain ⟨U, o, q, r⟩ := K p e s m args below meth c vm0 k0 T locs A
  exact ⟨U, o, A.2.1.ldc2Long A.1.1 (own := B.1.cls) A.2.2.2.2.2.1 (mvT (s := s.setVm vm0) A.2.2.2.2.1 w) (g := mkF m pc Ls st) rfl (hb A.1.2.1 hd) _ q, r⟩
theorem wkP.instNull (pc' : Nat) {index : Nat} (hd : decode B.2.1 pc = .ok (.instanceof index, 3)) (hp : pc + 3 = pc') (K : wkP l Z B R hs w0 Q ws h k n pc' Ls (.int 0 :: st)) : wkP l Z B R hs w0 Q ws h k n pc Ls (.null :: st) := by
  subst hp; exact .pure (fun p e s m args below meth c vm0 T locs hx hby X t q => X.instanceofNull hx (g := mkF m pc Ls (.null :: st)) rfl rfl (hb hby hd) t q) K
theorem wkP.instNo (pc' : Nat) {index : Nat} {C D : String} (w : (Cond.classLink B.1.cls index C).before a0 Z = true) (E : Exa Z h a D) (F : ∃ c t, Z.vm.findClass D = some c ∧ Z.vm.findClass C = some t ∧ Z.vm.assignable c t = false) (hd : decode B.2.1 pc = .ok (.instanceof index, 3)) (hp : pc + 3 = pc') (K : wkP l Z B R hs w0 Q ws h k n pc' Ls (.int 0 :: st)) : wkP l Z B R hs w0 Q ws h k n pc Ls (.ref a :: st) := by
  subst hp
  intro p e s m args below meth c vm0 k0 T locs A
  obtain ⟨T', X', e', stp⟩ := RoadKit.instNo A.2.1 A.1.1 A.2.2.2.2.1 A.2.2.2.2.2.1 w A.2.2.1 E F (g := mkF m pc Ls (.ref a :: st)) rfl rfl (hb A.1.2.1 hd)
  obtain ⟨U, o, q, r⟩ := K p e s m args below meth c vm0 k0 T' locs (A.same X' e')
  exact ⟨U, o, stp _ q, r⟩
/-- String's one superclass is Object: it is no class that is neither -/
theorem notOf {K : String} {kk : Nat} (w1 : (Cond.superclass "java/lang/String" "java/lang/Object").before a0 Z = true) (w2 : (Cond.noSuperclass "java/lang/Object").before a0 Z = true) (w3 : (Cond.instantiable K kk).before a0 Z = true) (n1 : "java/lang/String" ≠ K) (n2 : "java/lang/Object" ≠ K) : ∃ c t, Z.vm.findClass "java/lang/String" = some c ∧ Z.vm.findClass K = some t ∧ Z.vm.assignable c t = false := by
  obtain ⟨t, kt, g0, g2, g3, g4, -⟩ := Cond.instantiable_spec w3
  obtain ⟨c, h0⟩ := found_sup w1
  obtain ⟨p, k, kp, h1, h2, h3, h4, h5, -, h7⟩ := Cond.superclass_spec h0 w1
  obtain ⟨q, kq, q1, q2, q3, -, -⟩ := Cond.noSuperclass_spec w2
  have e1 := h1.symm.trans q1
  cases e1
  have ne1 := ids_ne h0 g0 n1
  have ne2 := ids_ne h1 g0 n2
  have hi : kt.isInterface = false := by
    cases hq : kt.isInterface
    · rfl
    · rw [hq] at g4; simp at g4
  have ns : ∀ fuel, Z.vm.isSubclassAux fuel c t = false := fun fuel => by
    cases fuel with
    | zero => rfl
    | succ f =>
      cases f with
      | zero => simp [Vm.isSubclassAux, ne1, h2, h4]
      | succ f => simp [Vm.isSubclassAux, ne1, ne2, h2, h4, q2, q3]
  refine ⟨c, t, h0, g0, ?_⟩
  show Z.vm.assignableAux (255 + 1) c t = false
  simp [Vm.assignableAux, ne1, h2, g2, h5, g3, hi, Vm.isSubclass, ns]
theorem wkP.newO (pc' : Nat) {index nn : Nat} {C : String} (w : (Cond.classLink B.1.cls index C).before a0 Z = true) (wi : (Cond.instantiable C nn).before a0 Z = true) (wz : (Cond.initialized C).before a0 Z = true) (hd : decode B.2.1 pc = .ok (.new index, 3)) (hc : k + 1 ≤ R.cells) (hl : n + nn ≤ R.slots) (hp : pc + 3 = pc')
    (K : ∀ (h' : Heap) (a : Addr), h.size ≤ a → h'.size > a → Keep h h' [] → Exa Z h' a C → (∀ {O nm d : String} {ty : FieldType}, Laid Z a0 C O nm d → parseFieldDescriptor d = some ty → Fld Z h' a O nm d (defaultValue ty)) → Unt h' a → wkP l Z B R hs w0 Q (a :: ws) h' (k + 1) (n + nn) pc' Ls (.ref a :: st)) : wkP l Z B R hs w0 Q ws h k n pc Ls st := by
  subst hp
  intro p e s m args below meth c vm0 k0 T locs A
  obtain ⟨T', h', X', e', E', A', D', N', stp⟩ := RoadKit.newO A.2.1 A.1.1 A.2.2.2.2.1 A.2.2.2.2.2.1 w wi wz A.2.2.1 (g := mkF m pc Ls st) rfl (hb A.1.2.1 hd) hc hl
  obtain ⟨U, o, q, r⟩ := K h' h.size (Nat.le_refl _) A'.lt (keepExt E') A' (fun L q => D' L q) N' p e s m args below meth c vm0 k0 T' locs (A.push X' e' E' (Nat.le_refl _) A'.lt)
  exact ⟨U, o, stp _ q, r⟩
theorem nat_of_toInt {z : Int32} {N : Nat} (hz : z.toInt = (N : Int)) : ¬ z < 0 ∧ z.toNatClampNeg = N := by
  constructor
  · rw [Int32.lt_iff_toInt_lt, hz]; simp
  · simp [Int32.toNatClampNeg, hz]
theorem wkP.newP (pc' : Nat) {aty : ArrayType} (ty : FieldType) (N cap : Nat) {z : Int32} (w : (Cond.arrayClass ty).before a0 Z = true) (hty : newarray.typeOf aty = ty) (hdv : defaultValue ty = .int 0) (hf : fits ty (.int 0) = true) (hd : decode B.2.1 pc = .ok (.newarray aty, 2)) (hz : z.toInt = (N : Int)) (hcap : N ≤ cap) (hb8 : cap * 8 ≤ 536870912) (hc : k + 1 ≤ R.cells) (hl : n + cap ≤ R.slots) (hp : pc + 2 = pc')
    (K : ∀ (h' : Heap) (a : Addr), h.size ≤ a → h'.size > a → Keep h h' [] → Ia Z h' a ty (List.replicate N 0) → wkP l Z B R hs w0 Q (a :: ws) h' (k + 1) (n + cap) pc' Ls (.ref a :: st)) : wkP l Z B R hs w0 Q ws h k n pc Ls (.int z :: st) := by
  subst hp hty
  obtain ⟨z1, z2⟩ := nat_of_toInt hz
  intro p e s m args below meth c vm0 k0 T locs A
  obtain ⟨T', h', cA, X', e', E', A', stp⟩ := RoadKit.newP A.2.1 A.1.1 A.2.2.2.2.1 w A.2.2.1 (g := mkF m pc Ls (.int z :: st)) rfl (hb A.1.2.1 hd) rfl z1 (cap := cap) (by omega) hb8 hc hl
  have F : Ia Z h' h.size (newarray.typeOf aty) (List.replicate N 0) := ⟨_, A', by simp [newA, z2, hdv], fun x hx => by rw [List.eq_of_mem_replicate hx]; exact hf, by simp; omega⟩
  obtain ⟨U, o, q, r⟩ := K h' h.size (Nat.le_refl _) A'.lt (keepExt E') F p e s m args below meth c vm0 k0 T' locs (A.push X' e' E' (Nat.le_refl _) A'.lt)
  exact ⟨U, o, stp _ q, r⟩
theorem wkP.putF (pc' : Nat) {index kk : Nat} {O nm d C : String} {ty : FieldType} {old : Value} (w : (Cond.fieldLink B.1.cls index O nm d).before a0 Z = true) (F : Fld Z h a O nm d old) (E : Exa Z h a C) (L : (Cond.lays C O nm d).before a0 Z = true ∨ ((Cond.laysFinal C O nm d).before a0 Z = true ∧ B.1.cls = O ∧ B.1.name = "<init>")) (wi : (Cond.instantiable C kk).before a0 Z = true)
    (hty : parseFieldDescriptor d = some ty) (hn : narrow ty v = v) (hf : fits ty v = true) (hd : decode B.2.1 pc = .ok (.putfield index, 3)) (ha : a ∈ ws) (hp : pc + 3 = pc')
    (K : ∀ h' : Heap, Keep h h' [a] → Wr h h' a (RoadKit.slotOf Z O nm d) v → wkP l Z B R hs w0 Q ws h' k n pc' Ls st) : wkP l Z B R hs w0 Q ws h k n pc Ls (v :: .ref a :: st) := by
  subst hp
  intro p e s m args below meth c vm0 k0 T locs A
  obtain ⟨T', h', X', e', W', stp⟩ := RoadKit.putF A.2.1 A.1.1 A.2.2.2.2.1 A.2.2.2.2.2.1 (host := "") (Or.inl w) Via.refl A.2.2.1 F E (L.imp id fun q => ⟨q.1, q.2.1, A.1.2.2.2.2.2.trans q.2.2⟩) wi hty hn hf (g := mkF m pc Ls (v :: .ref a :: st)) rfl rfl (hb A.1.2.1 hd)
  obtain ⟨U, o, q, r⟩ := K h' (Keep.of_wr W') W' p e s m args below meth c vm0 k0 T' _ (A.wr X' e' W' ha)
  exact ⟨U, o, stp _ q, r⟩
theorem Ia.set {xs : List Int32} {ty : FieldType} {i : Nat} {x : Int32} (F : Ia Z h a ty xs) (W : Wr h h' a i (.int x)) (hx : fits ty (.int x) = true) : Ia Z h' a ty (xs.set i x) := by
  obtain ⟨c, A, e1, f, r⟩ := F
  refine ⟨_, A.same W, by simp [Cell.setSlot, e1], fun y hy => ?_, by simpa using r⟩
  rcases List.mem_or_eq_of_mem_set hy with q | q
  · exact f y q
  · rw [q]; exact hx
theorem in_of {xs : List Int32} {c : Cell} {j : Int32} {i : Nat} (e1 : c.slots = (xs.map Value.int).toArray) (hj : j.toInt = (i : Int)) (hi : i < xs.length) : ¬ (j < 0 ∨ c.slots.size ≤ j.toNatClampNeg) := by
  obtain ⟨z1, z2⟩ := nat_of_toInt hj
  rw [e1, z2]; simp [z1]; omega
theorem wkP.stC (pc' i : Nat) {xs : List Int32} {j x : Int32} (x' : Int32) (F : Ia Z h a .char xs) (hd : decode B.2.1 pc = .ok (.castore, 1)) (hj : j.toInt = (i : Int)) (hi : i < xs.length) (hx' : nar .char x = x') (ha : a ∈ ws) (hp : pc + 1 = pc')
    (K : ∀ h' : Heap, Keep h h' [a] → Ia Z h' a .char (xs.set i x') → wkP l Z B R hs w0 Q ws h' k n pc' Ls st) : wkP l Z B R hs w0 Q ws h k n pc Ls (.int x :: .int j :: .ref a :: st) := by
  subst hp hx'
  intro p e s m args below meth c vm0 k0 T locs A
  have F0 := F
  obtain ⟨cl, Ar, e1, f, r⟩ := F
  obtain ⟨T', h', X', e', W', stp⟩ := RoadKit.stC A.2.1 A.1.1 A.2.2.2.2.1 A.2.2.1 Ar (j := j) (in_of e1 hj hi) (g := mkF m pc Ls (.int x :: .int j :: .ref a :: st)) rfl rfl (hb A.1.2.1 hd)
  rw [(nat_of_toInt hj).2] at W' X'
  obtain ⟨U, o, q, r⟩ := K h' (Keep.of_wr W') (F0.set W' (fits_nar_char x)) p e s m args below meth c vm0 k0 T' _ (A.wr X' e' W' ha)
  exact ⟨U, o, stp _ q, r⟩
theorem wkP.stB (pc' i : Nat) {xs : List Int32} {j x : Int32} (x' : Int32) (F : Ia Z h a .byte xs) (hd : decode B.2.1 pc = .ok (.bastore, 1)) (hj : j.toInt = (i : Int)) (hi : i < xs.length) (hx' : nar .byte x = x') (ha : a ∈ ws) (hp : pc + 1 = pc')
    (K : ∀ h' : Heap, Keep h h' [a] → Ia Z h' a .byte (xs.set i x') → wkP l Z B R hs w0 Q ws h' k n pc' Ls st) : wkP l Z B R hs w0 Q ws h k n pc Ls (.int x :: .int j :: .ref a :: st) := by
  subst hp hx'
  intro p e s m args below meth c vm0 k0 T locs A
  have F0 := F
  obtain ⟨cl, Ar, e1, f, r⟩ := F
  obtain ⟨T', h', X', e', W', stp⟩ := RoadKit.stB A.2.1 A.1.1 A.2.2.2.2.1 A.2.2.1 Ar (j := j) (in_of e1 hj hi) (g := mkF m pc Ls (.int x :: .int j :: .ref a :: st)) rfl rfl (hb A.1.2.1 hd)
  rw [(nat_of_toInt hj).2] at W' X'
  obtain ⟨U, o, q, r⟩ := K h' (Keep.of_wr W') (F0.set W' (fits_nar_byte x)) p e s m args below meth c vm0 k0 T' _ (A.wr X' e' W' ha)
  exact ⟨U, o, stp _ q, r⟩
theorem Ia.at {xs : List Int32} {c : Cell} {i : Nat} {x j : Int32} (e1 : c.slots = (xs.map Value.int).toArray) (hj : j.toInt = (i : Int)) (hx : xs[i]? = some x) : c.slots[j.toNatClampNeg]? = some (.int x) := by
  rw [(nat_of_toInt hj).2, e1]; simp [hx]
theorem wkP.caload (pc' i : Nat) {xs : List Int32} {j : Int32} (x : Int32) (F : Ia Z h a .char xs) (hd : decode B.2.1 pc = .ok (.caload, 1)) (hj : j.toInt = (i : Int)) (hx : xs[i]? = some x) (hp : pc + 1 = pc') (K : wkP l Z B R hs w0 Q ws h k n pc' Ls (.int x :: st)) : wkP l Z B R hs w0 Q ws h k n pc Ls (.int j :: .ref a :: st) := by
  subst hp
  intro p e s m args below meth c vm0 k0 T locs A
  obtain ⟨cl, Ar, e1, f, r⟩ := F
  have hi : i < xs.length := (List.getElem?_eq_some_iff.mp hx).1
  obtain ⟨U, o, q, r⟩ := K p e s m args below meth c vm0 k0 T locs A
  exact ⟨U, o, A.2.1.caload A.1.1 (by rw [A.2.2.1]; exact Ar.1) (State.isArrayOf_alike (T := s.setVm vm0) A.2.2.2.2.1.alike Ar.2.1) Ar.2.2 (in_of e1 hj hi) (Ia.at e1 hj hx) (g := mkF m pc Ls (.int j :: .ref a :: st)) rfl rfl (hb A.1.2.1 hd) _ q, r⟩
theorem wkP.baload (pc' i : Nat) {xs : List Int32} {j : Int32} (x : Int32) (F : Ia Z h a .byte xs) (hd : decode B.2.1 pc = .ok (.baload, 1)) (hj : j.toInt = (i : Int)) (hx : xs[i]? = some x) (hp : pc + 1 = pc') (K : wkP l Z B R hs w0 Q ws h k n pc' Ls (.int x :: st)) : wkP l Z B R hs w0 Q ws h k n pc Ls (.int j :: .ref a :: st) := by
  subst hp
  intro p e s m args below meth c vm0 k0 T locs A
  obtain ⟨cl, Ar, e1, f, r⟩ := F
  have hi : i < xs.length := (List.getElem?_eq_some_iff.mp hx).1
  obtain ⟨U, o, q, r⟩ := K p e s m args below meth c vm0 k0 T locs A
  exact ⟨U, o, A.2.1.baloadBytes A.1.1 (by rw [A.2.2.1]; exact Ar.1) (State.isArrayOf_alike (T := s.setVm vm0) A.2.2.2.2.1.alike Ar.2.1) Ar.2.2 (in_of e1 hj hi) (Ia.at e1 hj hx) (g := mkF m pc Ls (.int j :: .ref a :: st)) rfl rfl (hb A.1.2.1 hd) _ q, r⟩
theorem wkP.alen (pc' : Nat) {xs : List Int32} {ty : FieldType} (z : Int32) (F : Ia Z h a ty xs) (hd : decode B.2.1 pc = .ok (.arraylength, 1)) (hz : Int32.ofNat xs.length = z) (hp : pc + 1 = pc') (K : wkP l Z B R hs w0 Q ws h k n pc' Ls (.int z :: st)) : wkP l Z B R hs w0 Q ws h k n pc Ls (.ref a :: st) := by
  subst hp hz
  intro p e s m args below meth c vm0 k0 T locs A
  obtain ⟨cl, Ar, e1, f, r⟩ := F
  obtain ⟨U, o, q, r⟩ := K p e s m args below meth c vm0 k0 T locs A
  refine ⟨U, o, A.2.1.arraylength A.1.1 (by rw [A.2.2.1]; exact Ar.1) (State.isArrayOf_alike (T := s.setVm vm0) A.2.2.2.2.1.alike Ar.2.1) (g := mkF m pc Ls (.ref a :: st)) rfl rfl (hb A.1.2.1 hd) _ ?_, r⟩
  have sz : cl.slots.size = xs.length := by rw [e1]; simp
  rw [sz]; exact q
theorem wkP.initO (pc' : Nat) {index : Nat} (w1 : (Cond.methodLink B.1.cls index Lib.objectInit).before a0 Z = true) (w2 : (Cond.instanceMethod Lib.objectInit).before a0 Z = true) (w3 : (Cond.code Lib.objectInit ⟨#[0xb1]⟩ 1 none).before a0 Z = true) (hd : decode B.2.1 pc = .ok (.invokespecial index, 3)) (hsz : Ls.size = B.2.2.1)
    (hf : 1 ≤ R.frames) (W : Nat) (hW : 2 * 0 + (st.map fun v => v.category).sum ≤ W) (hl : W + 12 ≤ R.locals) (hp : pc + 3 = pc') (K : wkP l Z B R hs w0 Q ws h k n pc' Ls st) : wkP l Z B R hs w0 Q ws h k n pc Ls (.ref a :: st) := by
  subst hp
  intro p e s m args below meth c vm0 k0 T locs A
  obtain ⟨T', X', e', stp⟩ := RoadKit.initO A.2.1 A.1.1 A.2.2.2.2.1 A.2.2.2.2.2.1 w1 w2 w3 A.2.2.1 (g := mkF m pc Ls (.ref a :: st)) rfl (hsz.trans A.1.2.2.1.symm) rfl (hb A.1.2.1 hd) hf hW hl
  obtain ⟨U, o, q, r⟩ := K p e s m args below meth c vm0 k0 T' locs (A.same X' e')
  exact ⟨U, o, stp _ q, r⟩
theorem wkP.ldc (pc' : Nat) {index : Nat} {text : String} (xs : List Int32) (N : Nat) (w : (Cond.stringLink B.1.cls index text).before a0 Z = true) (wS : ∀ a ∈ Bundle.stringAtoms, a.before a0 Z = true) (hE : EW Z a0 EL) (hmem : (B.1.cls, index) ∈ EL)
    (ht : (∀ c ∈ text.toList, c.toNat < 256) ∧ text.toList.map (fun c => Value.int (Jvm.Lit.byteI c.toNat.toUInt16)) = xs.map Value.int) (hl : text.toList.length = xs.length) (hxl : xs.length < 100000) (hd : decode B.2.1 pc = .ok (.ldc index, 2)) (hn : 4 * text.toList.length ≤ N) (hN : N ≤ 536870912) (hc : k + 2 ≤ R.cells) (hsl : n + (N + 4) ≤ R.slots) (hp : pc + 2 = pc')
    (K : ∀ (h' : Heap) (a b : Addr), Keep h h' [] → Exa Z h' a "java/lang/String" → Fld Z h' a "java/lang/String" "coder" "B" (.int 0) → Fld Z h' a "java/lang/String" "value" "[B" (.ref b) → Ia Z h' b .byte xs → (∀ x ∈ ws, x ≠ a ∧ x ≠ b) → wkP l Z B R hs w0 Q ws h' (k + 2) (n + (N + 4)) pc' Ls (.ref a :: st)) : wkP l Z B R hs w0 Q ws h k n pc Ls st := by
  subst hp
  intro p e s m args below meth c vm0 k0 T locs A
  have hz : (Int32.ofNat xs.length).toInt = (xs.length : Int) := toInt_of rfl (by omega)
  obtain ⟨z1, z2⟩ := nat_of_toInt hz
  obtain ⟨a1, a2, a3, ⟨a4, a5⟩, a6, a7, a8, a9, a10, a11, a12⟩ := A
  obtain ⟨a, T', h', k1, b, kb, X', e', E', S', k1', W', O', q1, q2, q3, q4, q5, q6, C', -, ne, stp⟩ := ldcCH a2 a1.1 a6 a7 w wS a3 a4 a5 hE hmem a8.1 ht z1 (by rw [z2]; simp) (g := mkF m pc Ls st) rfl (hb a1.2.1 hd) hn hN hc hsl
  have sf : ∀ x ∈ ws, Z.heap.size ≤ x ∧ x < h'.size ∧ Safe Z EL T'.vm h' x ∧ (x ∈ w0 ∨ hs.size ≤ x) := fun x hx => ⟨(a12 x hx).1, Nat.lt_of_lt_of_le (a12 x hx).2.1 E'.1, C'.safe (a12 x hx).2.1 (a12 x hx).2.2.1, (a12 x hx).2.2.2⟩
  obtain ⟨U, o, q, r⟩ := K h' a b (keepExt E') q1 q2 q3 (Ia.of_arv q4 rfl (by rw [z2]; simp)) (fun x hx => ne x (sf x hx).2.2.1) p e s m args below meth c T'.vm k1 T' locs ⟨a1, X', e', ⟨S', k1'⟩, W', O', a8.trans C', a9, a10.ext E', a11.ext E', sf⟩
  exact ⟨U, o, stp _ q, r⟩
theorem wkBack {B' : wkB} {rm : Room} {as : Array Value} {wc : List Addr} {Q' : Option Value → Heap → List Addr → Prop} {len W : Nat} (M : wkM l Z B' rm as h wc Q') (hO : Old Z Z.heap.size h) (hw : ∀ x ∈ wc, Z.heap.size ≤ x ∧ x < h.size) (hZ : Z.Warmed39 vm0) (wcd : (Cond.code B'.1 B'.2.1 B'.2.2.1 B'.2.2.2).before a0 Z = true) (wz : (Cond.initialized B'.1.cls).before a0 Z = true)
    (hf : rm.frames + 1 ≤ R.frames) (hl : W + (B'.2.2.1 + 11) + rm.locals ≤ R.locals) (hE : EW Z a0 EL) (H : CHv Z EL vm0 h) (hS : ∀ x ∈ wc, Safe Z EL vm0 h x) :
    BackS l R p e below (s.setVm vm0) args B'.1 len W (fun A a => a = as ∧ A.U.heap = h ∧ A.cells + rm.cells ≤ R.cells ∧ A.slots + rm.slots ≤ R.slots)
      (fun A _ v D => ∃ L os, (Q' v D.U.heap os ∧ Keep h D.U.heap wc ∧ Fr Z.heap.size L ∧ Old Z Z.heap.size D.U.heap ∧ wkSf Z D.U.vm D.U.heap h wc os) ∧ D.locs = A.locs ++ L ∧ D.cells = A.cells + rm.cells ∧ D.slots = A.slots + rm.slots ∧ CHr Z EL vm0 h D.U.vm D.U.heap) :=
  BackS.of_freeW (bytes := B'.2.1) (maxL := B'.2.2.1) (ret := B'.2.2.2) (E := fun _ first o t L k n => k = rm.cells ∧ n = rm.slots ∧ (∃ v os, o = .returned v ∧ (Q' v t.heap os ∧ Keep h t.heap wc ∧ Fr Z.heap.size L ∧ Old Z Z.heap.size t.heap ∧ wkSf Z t.vm t.heap h wc os)) ∧ CHr Z EL first.vm first.heap t.vm t.heap) (M hO hw) hf hl
    (fun m meth c A a Y hp => have hU : Z.Warmed39 A.U.vm := wtrans (s := s.setVm vm0) hZ Y.warmed
      ⟨by show (Cond.and _ .tt).before a A.U = true; rw [Cond.before_and, mv hU wcd]; rfl, mv hU wcd, mv hU wz, hp.2.2.1, hp.2.2.2⟩)
    (fun m meth c A a g mk Y hp => ⟨hp.1, wtrans (s := s.setVm vm0) hZ Y.warmed, hp.2.1, (CHv.at Y hZ hE H).1, fun x hx => (CHv.at Y hZ hE H).safe (hw x hx).2 (hS x hx)⟩) (fun _ _ _ _ _ _ _ _ _ => trivial)
    (fun _ _ _ _ ⟨v, L, h1, ⟨os, h2⟩, h3, h4⟩ => ⟨L, _, _, h4, rfl, rfl, ⟨v, os, h1, h2⟩, h3⟩)
    (fun m meth c A a g mk v t L k n Y hp _ _ ⟨e1, e2, ⟨v', os, e3, e4⟩, e5⟩ => by
      cases e3; subst e1 e2
      refine ⟨L, os, e4, rfl, rfl, rfl, (CHv.at Y hZ hE H).trans ?_⟩
      rw [← hp.2.1]; exact e5)
/-- behind a call: the walk goes on over the tables and the heap that the callee left -/
theorem wkAt.back {U : State} {L : List Loc} {os wc : List Addr} {k2 n2 : Nat} (A : wkAt p l e R s m args below meth c Z B hs w0 ws h k n vm0 k0 T locs) (X' : Stand p l e R ((s.setVm vm0).setVm U.vm) m args below meth c U (locs ++ L) k2 n2) (hS : (s.setVm vm0).Since U.vm U.heap.size) (hg : T.heap.size ≤ U.heap.size)
    (hK : Keep h U.heap wc) (hL : Fr Z.heap.size L) (hO : Old Z Z.heap.size U.heap) (hos : wkSf Z U.vm U.heap h wc os) (hC : CHr Z EL vm0 h U.vm U.heap) (hwc : ∀ x ∈ wc, x ∈ ws) : wkAt p l e R s m args below meth c Z B hs w0 (os ++ ws) U.heap k2 n2 U.vm U.heap.size U (locs ++ L) := by
  obtain ⟨a1, a2, a3, ⟨a4, a5⟩, a6, a7, a8, a9, a10, a11, a12⟩ := A
  obtain ⟨r1, r2, r3, r4⟩ := rebS (own := B.1.cls) a4 (by rw [a3]; exact a5) X' hS hg a6 a7
  refine ⟨a1, r1, rfl, ⟨r2, Nat.le_refl _⟩, r3, r4, a8.trans hC, Fr.app a9 hL, hO, a11.trans hK (fun x hx => (a12 x (hwc x hx)).2.2.2), fun x hx => ?_⟩
  rcases List.mem_append.mp hx with q | q
  · obtain ⟨o1, o2, o3, o4⟩ := hos x q
    refine ⟨o1, o2, o3, ?_⟩
    rcases o4 with o4 | o4
    · exact (a12 x (hwc x o4)).2.2.2
    · exact Or.inr (Nat.le_trans a11.1 o4)
  · exact ⟨(a12 x q).1, Nat.lt_of_lt_of_le (a12 x q).2.1 hK.1, hC.safe (a12 x q).2.1 (a12 x q).2.2.1, (a12 x q).2.2.2⟩
theorem wkP.callS (pc' : Nat) {B' : wkB} {rm : Room} {as : Array Value} {wc : List Addr} {Q' : Option Value → Heap → List Addr → Prop} {index : Nat} (M : wkM l Z B' rm as h wc Q') (argsL rest : List Value) (W : Nat) (hE : EW Z a0 EL)
    (w1 : (Cond.methodLink B.1.cls index B'.1).before a0 Z = true) (w2 : (Cond.static B'.1).before a0 Z = true) (w3 : (Cond.initialized B'.1.cls).before a0 Z = true) (w4 : (Cond.code B'.1 B'.2.1 B'.2.2.1 B'.2.2.2).before a0 Z = true)
    (hy : B'.1.cls ≠ "java/lang/invoke/MethodHandle" ∧ B'.1.cls ≠ "java/lang/invoke/VarHandle") (hd : decode B.2.1 pc = .ok (.invokestatic index, 3)) (hlen : ∀ sig, parseMethodDescriptor B'.1.desc = some sig → argsL.length = sig.parameters.length) (has : argsL.toArray = as) (hst : st = argsL.reverse ++ rest) (hsz : Ls.size = B.2.2.1)
    (hwc : ∀ x ∈ wc, x ∈ ws) (hW : 2 * 0 + (rest.map fun v => v.category).sum ≤ W) (hf : rm.frames + 1 ≤ R.frames) (hl : W + (B'.2.2.1 + 11) + rm.locals ≤ R.locals) (hc : k + rm.cells ≤ R.cells) (hsl : n + rm.slots ≤ R.slots) (hp : pc + 3 = pc')
    (K : ∀ (v : Option Value) (h' : Heap) (os : List Addr), Q' v h' os → Keep h h' wc → wkP l Z B R hs w0 Q (os ++ ws) h' (k + rm.cells) (n + rm.slots) pc' Ls (v.toList ++ rest)) : wkP l Z B R hs w0 Q ws h k n pc Ls st := by
  subst hp hst has
  intro p e s m args below meth c vm0 k0 T locs A
  obtain ⟨a1, a2, a3, ⟨a4, a5⟩, a6, a7, a8, a9, a10, a11, a12⟩ := id A
  obtain ⟨v, vm₁, D, -, X', hS, hg, ⟨L, os, ⟨b1, b2, b3, b4, b5⟩, c1, c2, c3, c4⟩, stp⟩ := callSS a2 a1.1 a7 (mvT (s := s.setVm vm0) a6 w1) (mvT (s := s.setVm vm0) a6 w2) (mvT (s := s.setVm vm0) a6 w3) (mvT (s := s.setVm vm0) a6 w4) hy (wkBack M a10 (fun x hx => ⟨(a12 x (hwc x hx)).1, (a12 x (hwc x hx)).2.1⟩) a6 w4 w3 hf hl hE a8.1 (fun x hx => (a12 x (hwc x hx)).2.2.1)) (g := mkF m pc Ls (argsL.reverse ++ rest)) rfl (hsz.trans a1.2.2.1.symm) hlen rfl hW (hb a1.2.1 hd) (fun _ _ => ⟨rfl, a3, hc, hsl⟩)
  obtain ⟨U, dl, dc, ds⟩ := D
  dsimp only at X' hS hg b1 b2 b4 b5 c1 c2 c3 c4 stp
  subst c1 c2 c3
  obtain ⟨U2, o, q, r⟩ := K v U.heap os b1 b2 p e s m args below meth c U.vm U.heap.size U _ (A.back X' hS hg b2 b3 b4 b5 c4 hwc)
  exact ⟨U2, o, stp.trans q, r⟩
theorem wkP.callI (pc' : Nat) {B' : wkB} {rm : Room} {as : Array Value} {wc : List Addr} {Q' : Option Value → Heap → List Addr → Prop} {index : Nat} (M : wkM l Z B' rm as h wc Q') (argsL rest : List Value) (W : Nat) (hE : EW Z a0 EL)
    (w1 : (Cond.methodLink B.1.cls index B'.1).before a0 Z = true) (w2 : (Cond.instanceMethod B'.1).before a0 Z = true) (w3 : (Cond.initialized B'.1.cls).before a0 Z = true) (w4 : (Cond.code B'.1 B'.2.1 B'.2.2.1 B'.2.2.2).before a0 Z = true) (hnm : B'.1.name = "<init>") (hrt : B'.2.2.2 = none)
    (hy : B'.1.cls ≠ "java/lang/invoke/MethodHandle" ∧ B'.1.cls ≠ "java/lang/invoke/VarHandle") (hd : decode B.2.1 pc = .ok (.invokespecial index, 3)) (hlen : ∀ sig, parseMethodDescriptor B'.1.desc = some sig → argsL.length = sig.parameters.length) (has : (.ref a :: argsL).toArray = as) (hst : st = argsL.reverse ++ .ref a :: rest) (hsz : Ls.size = B.2.2.1)
    (hwc : ∀ x ∈ wc, x ∈ ws) (hW : 2 * 0 + (rest.map fun v => v.category).sum ≤ W) (hf : rm.frames + 1 ≤ R.frames) (hl : W + (B'.2.2.1 + 11) + rm.locals ≤ R.locals) (hc : k + rm.cells ≤ R.cells) (hsl : n + rm.slots ≤ R.slots) (hp : pc + 3 = pc')
    (K : ∀ (v : Option Value) (h' : Heap) (os : List Addr), Q' v h' os → Keep h h' wc → wkP l Z B R hs w0 Q (os ++ ws) h' (k + rm.cells) (n + rm.slots) pc' Ls (v.toList ++ rest)) : wkP l Z B R hs w0 Q ws h k n pc Ls st := by
  subst hp hst has
  intro p e s m args below meth c vm0 k0 T locs A
  obtain ⟨a1, a2, a3, ⟨a4, a5⟩, a6, a7, a8, a9, a10, a11, a12⟩ := id A
  have w4' : (Cond.code B'.1 B'.2.1 B'.2.2.1 none).before a0 Z = true := hrt ▸ w4
  obtain ⟨v, vm₁, D, -, X', hS, hg, ⟨L, os, ⟨b1, b2, b3, b4, b5⟩, c1, c2, c3, c4⟩, stp⟩ := a2.specialBackS a1.1 hnm a7 (mvT (s := s.setVm vm0) a6 w1) (mvT (s := s.setVm vm0) a6 w2) (mvT (s := s.setVm vm0) a6 w4') hy (wkBack M a10 (fun x hx => ⟨(a12 x (hwc x hx)).1, (a12 x (hwc x hx)).2.1⟩) a6 w4 w3 hf hl hE a8.1 (fun x hx => (a12 x (hwc x hx)).2.2.1)) (g := mkF m pc Ls (argsL.reverse ++ .ref a :: rest)) rfl (hsz.trans a1.2.2.1.symm) (Steps.refl _) hlen rfl hW (hb a1.2.1 hd) (fun _ _ => ⟨rfl, a3, hc, hsl⟩)
  obtain ⟨U, dl, dc, ds⟩ := D
  dsimp only at X' hS hg b1 b2 b4 b5 c1 c2 c3 c4 stp
  subst c1 c2 c3
  obtain ⟨U2, o, q, r⟩ := K v U.heap os b1 b2 p e s m args below meth c U.vm U.heap.size U _ (A.back X' hS hg b2 b3 b4 b5 c4 hwc)
  exact ⟨U2, o, stp.trans q, r⟩
theorem wkNFs {C : String} {y : MethodName} (w : (Cond.selects C y y).before a0 Z = true) : ∀ s : State, Z.Warmed39 s.vm → NotFace s y := fun s hZ => notFace_of_selects (args := #[]) (mvT hZ w)
theorem wkP.callV (pc' : Nat) {y : MethodName} {C : String} {B' : wkB} {rm : Room} {as : Array Value} {wc : List Addr} {Q' : Option Value → Heap → List Addr → Prop} {index : Nat} (M : wkM l Z B' rm as h wc Q') (argsL rest : List Value) (W : Nat) (hE : EW Z a0 EL) (E : Exa Z h a C) (NF : ∀ s : State, Z.Warmed39 s.vm → NotFace s y)
    (w1 : (Cond.methodLink B.1.cls index y).before a0 Z = true) (w1' : (Cond.declares y).before a0 Z = true) (w2 : (Cond.selects C y B'.1).before a0 Z = true) (w2' : (Cond.instanceMethod B'.1).before a0 Z = true) (w3 : (Cond.initialized B'.1.cls).before a0 Z = true) (w4 : (Cond.code B'.1 B'.2.1 B'.2.2.1 B'.2.2.2).before a0 Z = true)
    (hy : y.cls ≠ "java/lang/invoke/MethodHandle" ∧ y.cls ≠ "java/lang/invoke/VarHandle") (hd : decode B.2.1 pc = .ok (.invokevirtual index, 3)) (hlen : ∀ sig, parseMethodDescriptor y.desc = some sig → argsL.length = sig.parameters.length) (has : (.ref a :: argsL).toArray = as) (hst : st = argsL.reverse ++ .ref a :: rest) (hsz : Ls.size = B.2.2.1)
    (hwc : ∀ x ∈ wc, x ∈ ws) (hW : 2 * 0 + (rest.map fun v => v.category).sum ≤ W) (hf : rm.frames + 1 ≤ R.frames) (hl : W + (B'.2.2.1 + 11) + rm.locals ≤ R.locals) (hc : k + rm.cells ≤ R.cells) (hsl : n + rm.slots ≤ R.slots) (hp : pc + 3 = pc')
    (K : ∀ (v : Option Value) (h' : Heap) (os : List Addr), Q' v h' os → Keep h h' wc → wkP l Z B R hs w0 Q (os ++ ws) h' (k + rm.cells) (n + rm.slots) pc' Ls (v.toList ++ rest)) : wkP l Z B R hs w0 Q ws h k n pc Ls st := by
  subst hp hst has
  intro p e s m args below meth c vm0 k0 T locs A
  obtain ⟨a1, a2, a3, ⟨a4, a5⟩, a6, a7, a8, a9, a10, a11, a12⟩ := id A
  obtain ⟨cq, kq, i1, i2, i3⟩ := isOf (s := s.setVm vm0) a6 a3 E
  obtain ⟨v, vm₁, D, -, X', hS, hg, ⟨L, os, ⟨b1, b2, b3, b4, b5⟩, c1, c2, c3, c4⟩, stp⟩ := a2.virtualBackS a1.1 (y := y) (z := B'.1) a7 (mvT (s := s.setVm vm0) a6 w1) (mvT (s := s.setVm vm0) a6 w1') (NF (s.setVm vm0) a6) (mvT (s := s.setVm vm0) a6 w2) (mvT (s := s.setVm vm0) a6 w2') hy (wkBack M a10 (fun x hx => ⟨(a12 x (hwc x hx)).1, (a12 x (hwc x hx)).2.1⟩) a6 w4 w3 hf hl hE a8.1 (fun x hx => (a12 x (hwc x hx)).2.2.1)) i1 i3 (g := mkF m pc Ls (argsL.reverse ++ .ref a :: rest)) rfl (hsz.trans a1.2.2.1.symm) (Steps.refl _) hlen rfl hW (hb a1.2.1 hd) (fun _ _ => ⟨rfl, a3, hc, hsl⟩)
  obtain ⟨U, dl, dc, ds⟩ := D
  dsimp only at X' hS hg b1 b2 b4 b5 c1 c2 c3 c4 stp
  subst c1 c2 c3
  obtain ⟨U2, o, q, r⟩ := K v U.heap os b1 b2 p e s m args below meth c U.vm U.heap.size U _ (A.back X' hS hg b2 b3 b4 b5 c4 hwc)
  exact ⟨U2, o, stp.trans q, r⟩
theorem wkP.old (K : Ext Z.heap h → wkP l Z B R hs w0 Q ws h k n pc Ls st) : wkP l Z B R hs w0 Q ws h k n pc Ls st := by
  intro p e s m args below meth c vm0 k0 T locs A
  exact K A.2.2.2.2.2.2.2.2.1.2 p e s m args below meth c vm0 k0 T locs A
theorem wkP.callF (pc' : Nat) {y : MethodName} {C : String} {B' : wkB} {rm : Room} {as : Array Value} {wc : List Addr} {Q' : Option Value → Heap → List Addr → Prop} {index count : Nat} (M : wkM l Z B' rm as h wc Q') (argsL rest : List Value) (W : Nat) (hE : EW Z a0 EL) (E : Exa Z h a C)
    (w1 : (Cond.methodLink B.1.cls index y).before a0 Z = true) (w1' : (Cond.declares y).before a0 Z = true) (wf : (Cond.interfaceMethod y.cls y.cls y.name y.desc).before a0 Z = true) (hfa : ((Cond.interfaceMethod y.cls y.cls y.name y.desc).onTables && (Cond.interfaceMethod y.cls y.cls y.name y.desc).keepsFace) = true) (w2 : (Cond.selects C y B'.1).before a0 Z = true) (w2' : (Cond.instanceMethod B'.1).before a0 Z = true) (wp : (Cond.publicMethod B'.1).before a0 Z = true) (wu : (Cond.unhidden C y.name y.desc).before a0 Z = true) (wk : (Cond.castable C y.cls).before a0 Z = true) (w3 : (Cond.initialized B'.1.cls).before a0 Z = true) (w4 : (Cond.code B'.1 B'.2.1 B'.2.2.1 B'.2.2.2).before a0 Z = true)
    (hy : y.cls ≠ "java/lang/invoke/MethodHandle" ∧ y.cls ≠ "java/lang/invoke/VarHandle") (hd : decode B.2.1 pc = .ok (.invokeinterface index count, 5)) (hlen : ∀ sig, parseMethodDescriptor y.desc = some sig → argsL.length = sig.parameters.length) (has : (.ref a :: argsL).toArray = as) (hst : st = argsL.reverse ++ .ref a :: rest) (hsz : Ls.size = B.2.2.1)
    (hwc : ∀ x ∈ wc, x ∈ ws) (hW : 2 * 0 + (rest.map fun v => v.category).sum ≤ W) (hf : rm.frames + 1 ≤ R.frames) (hl : W + (B'.2.2.1 + 11) + rm.locals ≤ R.locals) (hc : k + rm.cells ≤ R.cells) (hsl : n + rm.slots ≤ R.slots) (hp : pc + 5 = pc')
    (K : ∀ (v : Option Value) (h' : Heap) (os : List Addr), Q' v h' os → Keep h h' wc → wkP l Z B R hs w0 Q (os ++ ws) h' (k + rm.cells) (n + rm.slots) pc' Ls (v.toList ++ rest)) : wkP l Z B R hs w0 Q ws h k n pc Ls st := by
  subst hp hst has
  intro p e s m args below meth c vm0 k0 T locs A
  obtain ⟨a1, a2, a3, ⟨a4, a5⟩, a6, a7, a8, a9, a10, a11, a12⟩ := id A
  obtain ⟨cq, kq, i1, i2, i3⟩ := isOf (s := s.setVm vm0) a6 a3 E
  obtain ⟨v, vm₁, D, -, X', hS, hg, ⟨L, os, ⟨b1, b2, b3, b4, b5⟩, c1, c2, c3, c4⟩, stp⟩ := a2.interfaceBackS a1.1 (xi := y) (y := B'.1) a7 (mvT (s := s.setVm vm0) a6 w1) (mvT (s := s.setVm vm0) a6 w1') (mvT (s := s.setVm vm0) a6 wf hfa) (mvT (s := s.setVm vm0) a6 w2) (mvT (s := s.setVm vm0) a6 w2') (mvT (s := s.setVm vm0) a6 wp) (mvT (s := s.setVm vm0) a6 wu) (mvT (s := s.setVm vm0) a6 wk) hy (wkBack M a10 (fun x hx => ⟨(a12 x (hwc x hx)).1, (a12 x (hwc x hx)).2.1⟩) a6 w4 w3 hf hl hE a8.1 (fun x hx => (a12 x (hwc x hx)).2.2.1)) i1 i2 i3 (g := mkF m pc Ls (argsL.reverse ++ .ref a :: rest)) rfl (hsz.trans a1.2.2.1.symm) (Steps.refl _) hlen rfl hW (hb a1.2.1 hd) (fun _ _ => ⟨rfl, a3, hc, hsl⟩)
  obtain ⟨U, dl, dc, ds⟩ := D
  dsimp only at X' hS hg b1 b2 b4 b5 c1 c2 c3 c4 stp
  subst c1 c2 c3
  obtain ⟨U2, o, q, r⟩ := K v U.heap os b1 b2 p e s m args below meth c U.vm U.heap.size U _ (A.back X' hS hg b2 b3 b4 b5 c4 hwc)
  exact ⟨U2, o, stp.trans q, r⟩
theorem wkMore {s U : State} {o : Outcome} {L : List Loc} {k n k1 n1 : Nat} (hE : ReturnedEndW s o U L k n) (hk : k ≤ k1) (hn : n ≤ n1) : ReturnedEndW s o U L k1 n1 := ⟨hE.1, hE.2.1, hE.2.2.1, hE.2.2.2.mono hk hn⟩
theorem wkP.leave {rv : Option Value} {stk : List Value} (os : List Addr) (hE : EW Z a0 EL) (hq : Q rv h os) (hos : ∀ x ∈ os, x ∈ ws) (hk : k ≤ R.cells) (hn : n ≤ R.slots) (hv : B.2.2.2 = none → rv = none)
    (hst : ∀ (p : Program) (e : Env) (s : State) (m : MethodId) (args : Array Value) (below : List Frame) (meth : Method) (c : Code) (vm0 : Vm) (T : State) (locs : List Loc), p.tables.exec = Jvm.exec → c.code = B.2.1 → meth.sig.returnType = B.2.2.2 → Stand p l e R (s.setVm vm0) m args below meth c T locs k n → ∀ fs, (∀ (f : JFrame) (acts : List Action), f.method = m → f.locked = none → f.entered = [] → (doReturn e (T.setTop f) acts rv).1 = T.setFrames fs) → Steps p.tables e below (T.setTop (mkF m pc Ls stk)) (T.setFrames fs)) : wkP l Z B R hs w0 Q ws h k n pc Ls stk := by
  intro p e s m args below meth c vm0 k0 T locs A
  obtain ⟨a1, a2, a3, ⟨a4, a5⟩, a6, a7, a8, a9, a10, a11, a12⟩ := A
  obtain ⟨fs, hr, hrun, hended, hend⟩ := a2.leaveW a4 (by rw [a3]; exact a5) (v := rv) (fun q => hv (a1.2.2.2.1.symm.trans q)) a1.2.2.2.2.1
  have C1 := CHv.at a2 a6 hE a8.1
  subst a3
  exact ⟨_, _, hst p e s m args below meth c vm0 T locs a1.1 a1.2.1 a1.2.2.2.1 a2 fs hr, hrun, hended, rv, locs, rfl, ⟨os, hq, a11, a9, a10, fun x hx => ⟨(a12 x (hos x hx)).1, (a12 x (hos x hx)).2.1, C1.safe (a12 x (hos x hx)).2.1 (a12 x (hos x hx)).2.2.1, (a12 x (hos x hx)).2.2.2⟩⟩, a8.trans C1, wkMore hend hk hn⟩
theorem wkP.ret {i : Instr} {w : Value} (t : FieldType) (os : List Addr) (hE : EW Z a0 EL) (hd : decode B.2.1 pc = .ok (i, 1)) (hret : B.2.2.2 = some t) (hnr : narrow t w = w)
    (hi : (i = .ireturn ∧ (t = .int ∨ t = .boolean ∨ t = .byte ∨ t = .char ∨ t = .short) ∧ ∃ z, w = .int z) ∨ (i = .lreturn ∧ t = .long ∧ ∃ z, w = .long z) ∨ (i = .dreturn ∧ t = .double ∧ ∃ z, w = .double z) ∨ (i = .freturn ∧ t = .float ∧ ∃ z, w = .float z) ∨ (i = .areturn ∧ t.isReference = true ∧ w.isRef = true))
    (hk : k ≤ R.cells) (hn : n ≤ R.slots) (hos : ∀ x ∈ os, x ∈ ws) (hq : Q (some w) h os) : wkP l Z B R hs w0 Q ws h k n pc Ls (w :: st) :=
  .leave os hE hq hos hk hn (fun q => by rw [hret] at q; cases q) (fun p e s m args below meth c vm0 T locs hx hby hr X fs hl => retOut X hx (hr.trans hret) hnr hi (hb hby hd) hl)
theorem wkP.retA {a : Addr} (t : FieldType) (os : List Addr) (hE : EW Z a0 EL) (hd : decode B.2.1 pc = .ok (.areturn, 1)) (hret : B.2.2.2 = some t) (ht : t.isReference = true)
    (hk : k ≤ R.cells) (hn : n ≤ R.slots) (hos : ∀ x ∈ os, x ∈ ws) (hq : Q (some (.ref a)) h os) : wkP l Z B R hs w0 Q ws h k n pc Ls (.ref a :: st) :=
  .ret t os hE hd hret (by cases t <;> first | rfl | exact Bool.noConfusion ht) (Or.inr (Or.inr (Or.inr (Or.inr ⟨rfl, ht, rfl⟩)))) hk hn hos hq
theorem wkP.retI {z : Int32} (t : FieldType) (os : List Addr) (hE : EW Z a0 EL) (hd : decode B.2.1 pc = .ok (.ireturn, 1)) (hret : B.2.2.2 = some t) (ht : t = .int ∨ t = .boolean ∨ t = .byte ∨ t = .char ∨ t = .short) (hnr : narrow t (.int z) = .int z)
    (hk : k ≤ R.cells) (hn : n ≤ R.slots) (hos : ∀ x ∈ os, x ∈ ws) (hq : Q (some (.int z)) h os) : wkP l Z B R hs w0 Q ws h k n pc Ls (.int z :: st) :=
  .ret t os hE hd hret hnr (Or.inl ⟨rfl, ht, z, rfl⟩) hk hn hos hq
theorem wkP.ret0 (os : List Addr) (hE : EW Z a0 EL) (hd : decode B.2.1 pc = .ok (.return_, 1)) (hret : B.2.2.2 = none)
    (hk : k ≤ R.cells) (hn : n ≤ R.slots) (hos : ∀ x ∈ os, x ∈ ws) (hq : Q none h os) : wkP l Z B R hs w0 Q ws h k n pc Ls [] :=
  .leave os hE hq hos hk hn (fun _ => rfl) (fun p e s m args below meth c vm0 T locs hx hby hr X fs hl => X.returnOut hx (hr.trans hret) (hb hby hd) hl)
theorem wkM.of {B : wkB} {rm : Room} {as : Array Value} {w0 : List Addr} (Ls : Array Slot) (hpl : plainFor B.1 = true) (he : ∀ m, entryFrame m as B.2.2.1 = mkF m 0 Ls []) (K : wkP l Z B rm h w0 Q w0 h 0 0 0 Ls []) : wkM l Z B rm as h w0 Q := by
  intro hO hw
  refine MetFree.of_bodySF hpl hisR ?_
  intro p e s m args below meth c s₁ Bd hml hP hK
  obtain ⟨rfl, hZ, hh, hC, hS⟩ := hP
  have X0 : Stand p l e rm s m args below meth c s₁ [] 0 0 := Stand.of_body Bd
  have e0 : s₁.heap = h := by rw [← hh, Bd.state]; rfl
  subst hh
  obtain ⟨U, o, st, r⟩ := K p e s m args below meth c s.vm s.heap.size s₁ [] ⟨⟨Bd.exec, Bd.bytes, hml, Bd.returns, Bd.notSynchronized, (name_of_methodNamed Bd.named Bd.method).1⟩, X0, e0, ⟨(State.WarmedH.refl s).since _, Nat.le_refl _⟩, hZ, findClass_of_methodNamed Bd.named, CHr.refl hC, Fr.nil _, hO, Keep.refl _ _, fun x hx => ⟨(hw x hx).1, (hw x hx).2, hS x hx, Or.inl hx⟩⟩
  exact ⟨U, o, castTop (he m) st, r⟩
theorem wkM.mono {B : wkB} {rm : Room} {as : Array Value} {w0 : List Addr} {Q2 : Option Value → Heap → List Addr → Prop} (M : wkM l Z B rm as h w0 Q) (q : ∀ v h' os, Q v h' os → Q2 v h' os) : wkM l Z B rm as h w0 Q2 := by
  intro hO hw p e ha hc hk s m args below hf happ hP hK
  obtain ⟨n, o, h1, h2, h3, v, L, e1, ⟨os, b1, b2⟩, r⟩ := M hO hw p e ha hc hk s m args below hf happ hP hK
  exact ⟨n, o, h1, h2, h3, v, L, e1, ⟨os, q _ _ _ b1, b2⟩, r⟩
end Rules2
end WK

section Str
/-- what is known all along: the sheet's words, the literals' texts, compact strings are on -/
def G (Z : State) (a0 : Array Value) : Prop := (∀ d ∈ tables_1, d.before a0 Z = true) ∧ EW Z a0 EL ∧ (∃ z : Int32, Sta Z Z.heap "java/lang/String" "COMPACT_STRINGS" "Z" (.int z) ∧ ¬ z = 0) ∧ (∃ v : Value, Sta Z Z.heap "jdk/internal/util/Preconditions" "SIOOBE_FORMATTER" "Ljava/util/function/BiFunction;" v ∧ v.isRef = true) ∧ Sta Z Z.heap "java/lang/StringUTF16" "$assertionsDisabled" "Z" (.int 1) ∧ Sta Z Z.heap "java/lang/StringUTF16" "HI_BYTE_SHIFT" "I" (.int 0) ∧ Sta Z Z.heap "java/lang/StringUTF16" "LO_BYTE_SHIFT" "I" (.int 8)
theorem ofNat_lt {i j : Nat} (hi : i < 2 ^ 31) (hj : j < 2 ^ 31) : Int32.ofNat i < Int32.ofNat j ↔ i < j := by
  rw [Int32.lt_iff_toInt_lt, toInt_of (n := Int32.ofNat i) rfl hi, toInt_of (n := Int32.ofNat j) rfl hj]; omega
theorem ofNat_inj {i j : Nat} (hi : i < 2 ^ 31) (hj : j < 2 ^ 31) : Int32.ofNat i = Int32.ofNat j ↔ i = j := by
  constructor
  · intro q
    have := congrArg Int32.toInt q
    rw [toInt_of (n := Int32.ofNat i) rfl hi, toInt_of (n := Int32.ofNat j) rfl hj] at this; omega
  · intro q; rw [q]
theorem toI {i : Nat} (hi : i < 2 ^ 31) : (Int32.ofNat i).toInt = (i : Int) := toInt_of rfl hi
theorem inc1 (i : Nat) : Int32.ofNat i + Int32.ofInt 1 = Int32.ofNat (i + 1) := (inc_ofNat i).symm
def lo8 (c : Int32) : Int32 := c.toInt8.toInt32
theorem lo8_i (c : Int32) : (lo8 c).toInt = c.toInt.bmod 256 := by simp [lo8]
theorem nar_lo8 (c : Int32) : nar .byte (lo8 c) = lo8 c := by
  show (lo8 c).toInt8.toInt32 = lo8 c
  rw [← Int32.toInt_inj]
  show (lo8 (lo8 c)).toInt = _
  rw [lo8_i, lo8_i]; simp
def lat (cs : List Int32) : Prop := ∀ c ∈ cs, ¬ c < 0 ∧ ¬ 255 < c
theorem lo8_inj {c d : Int32} (hc : ¬ c < 0 ∧ ¬ 255 < c) (hd : ¬ d < 0 ∧ ¬ 255 < d) (q : lo8 c = lo8 d) : c = d := by
  have := congrArg Int32.toInt q
  rw [lo8_i, lo8_i] at this
  rw [← Int32.toInt_inj]
  simp only [Int32.lt_iff_toInt_lt, Int32.reduceToInt] at hc hd
  simp only [Int.bmod_def] at this
  omega
theorem lat_map_inj : ∀ {cs ds : List Int32}, lat cs → lat ds → cs.map lo8 = ds.map lo8 → cs = ds
  | [], [], _, _, _ => rfl
  | [], _ :: _, _, _, q => by simp at q
  | _ :: _, [], _, _, q => by simp at q
  | c :: cs, d :: ds, h1, h2, q => by
    simp only [List.map_cons, List.cons.injEq] at q
    rw [lo8_inj (h1 c (by simp)) (h2 d (by simp)) q.1, lat_map_inj (fun x hx => h1 x (by simp [hx])) (fun x hx => h2 x (by simp [hx])) q.2]
/-- the String at a is compact, its bytes (at b) those of these chars -/
def SL (Z : State) (h : Heap) (a b : Addr) (cs : List Int32) : Prop := Exa Z h a "java/lang/String" ∧ Fld Z h a "java/lang/String" "coder" "B" (.int 0) ∧ Fld Z h a "java/lang/String" "value" "[B" (.ref b) ∧ Ia Z h b .byte (cs.map lo8) ∧ lat cs
theorem SL.keep {Z : State} {h h' : Heap} {a b : Addr} {cs : List Int32} {ws : List Addr} (F : SL Z h a b cs) (K : Keep h h' ws) (qa : a ∉ ws) (qb : b ∉ ws) : SL Z h' a b cs := ⟨F.1.keep K, F.2.1.keep K qa, F.2.2.1.keep K qa, F.2.2.2.1.keep K qb, F.2.2.2.2⟩
theorem SL.lta {Z : State} {h : Heap} {a b : Addr} {cs : List Int32} (F : SL Z h a b cs) : h.size > a := F.1.lt
theorem SL.ltb {Z : State} {h : Heap} {a b : Addr} {cs : List Int32} (F : SL Z h a b cs) : h.size > b := F.2.2.2.1.lt
theorem SL.len {Z : State} {h : Heap} {a b : Addr} {cs : List Int32} (F : SL Z h a b cs) : cs.length < 2 ^ 31 := by have := F.2.2.2.1.len; simpa using this
theorem narB0 {z : Int32} (q : z = 0 ∨ z = 1) : narrow .boolean (.int z) = .int z := by rcases q with rfl | rfl <;> rfl

def hi8 (c : Int32) : Int32 := (c >>> ((8 : Int32) &&& 31)).toInt8.toInt32
def chs (cs : List Int32) : Prop := ∀ c ∈ cs, ¬ c < 0 ∧ ¬ 65535 < c
def u16 : List Int32 → List Int32
  | [] => []
  | c :: cs => lo8 c :: hi8 c :: u16 cs
theorem u16_len : ∀ cs : List Int32, (u16 cs).length = 2 * cs.length
  | [] => rfl
  | _ :: cs => by simp [u16, u16_len cs]; omega
theorem u16_at : ∀ (cs : List Int32) (i : Nat) (c : Int32), cs[i]? = some c → (u16 cs)[2 * i]? = some (lo8 c) ∧ (u16 cs)[2 * i + 1]? = some (hi8 c)
  | [], i, c, q => by simp at q
  | d :: cs, 0, c, q => by simp at q; simp [u16, q]
  | d :: cs, i + 1, c, q => by
    have := u16_at cs i c (by simpa using q)
    simpa [u16, show 2 * (i + 1) = 2 * i + 1 + 1 by omega] using this
theorem u16_ext {cs ys : List Int32} (hl : ys.length = 2 * cs.length) (hj : ∀ j, j < cs.length → ∃ c, cs[j]? = some c ∧ ys[2 * j]? = some (lo8 c) ∧ ys[2 * j + 1]? = some (hi8 c)) : ys = u16 cs := by
  refine List.ext_getElem? fun t => ?_
  rcases Nat.lt_or_ge t (2 * cs.length) with q | q
  · obtain ⟨c, c1, c2, c3⟩ := hj (t / 2) (by omega)
    have := u16_at cs (t / 2) c c1
    rcases Nat.mod_two_eq_zero_or_one t with r | r
    · rw [show t = 2 * (t / 2) by omega, c2, this.1]
    · rw [show t = 2 * (t / 2) + 1 by omega, c3, this.2]
  · rw [List.getElem?_eq_none (by omega), List.getElem?_eq_none (by rw [u16_len]; exact q)]
theorem shr0 (c : Int32) : c >>> ((0 : Int32) &&& 31) = c := by
  have h : (c >>> ((0 : Int32) &&& 31)).toInt = c.toInt / 1 := c_ishr c 0 0 (by decide)
  rw [← Int32.toInt_inj, h]; omega
theorem shl0 (c : Int32) : c <<< ((0 : Int32) &&& 31) = c := by
  have h : ((c <<< ((0 : Int32) &&& 31)).toInt - c.toInt * 1) % 4294967296 = 0 := c_ishl c 0 0 (by decide)
  have h1 := rng32 c
  have h2 := rng32 (c <<< ((0 : Int32) &&& 31))
  rw [← Int32.toInt_inj]; omega
theorem nn_of {i : Nat} (hi : i < 2 ^ 31) : ¬ Int32.ofNat i < 0 := by
  rw [Int32.lt_iff_toInt_lt, toI hi]; simp only [Int32.reduceToInt]; omega
theorem shl1 {i : Nat} (hi : 2 * i < 2 ^ 31) : Int32.ofNat i <<< ((1 : Int32) &&& 31) = Int32.ofNat (2 * i) := by
  have h : ((Int32.ofNat i <<< ((1 : Int32) &&& 31)).toInt - (Int32.ofNat i).toInt * 2) % 4294967296 = 0 := c_ishl (Int32.ofNat i) 1 1 (by decide)
  have h2 := rng32 (Int32.ofNat i <<< ((1 : Int32) &&& 31))
  rw [← Int32.toInt_inj, toI hi]; rw [toI (show i < 2 ^ 31 by omega)] at h; omega
theorem shr1 {i : Nat} (hi : 2 * i < 2 ^ 31) : Int32.ofNat (2 * i) >>> ((1 : Int32) &&& 31) = Int32.ofNat i := by
  have h : (Int32.ofNat (2 * i) >>> ((1 : Int32) &&& 31)).toInt = (Int32.ofNat (2 * i)).toInt / 2 := c_ishr _ 1 1 (by decide)
  rw [toI hi] at h
  rw [← Int32.toInt_inj, h, toI (show i < 2 ^ 31 by omega)]; omega
theorem hi8_i (c : Int32) : (hi8 c).toInt = (c.toInt / 256).bmod 256 := by
  have h := c_ishr c 8 8 (by decide)
  show (lo8 (c >>> ((8 : Int32) &&& 31))).toInt = _
  rw [lo8_i, h]; rfl
theorem nar_hi8 (c : Int32) : nar .byte (hi8 c) = hi8 c := nar_lo8 _
theorem i2c_ch {x : Int32} (q : ¬ x < 0 ∧ ¬ 65535 < x) : x.toUInt32.toUInt16.toUInt32.toInt32 = x := by
  have h := c_i2c x
  rw [← Int32.toInt_inj]
  simp only [Int32.lt_iff_toInt_lt, Int32.reduceToInt] at q
  omega
theorem nar_c {x : Int32} (q : ¬ x < 0 ∧ ¬ 65535 < x) : nar .char x = x := i2c_ch q
theorem lat_get {c : Int32} (q : ¬ c < 0 ∧ ¬ 255 < c) : (lo8 c &&& 255).toUInt32.toUInt16.toUInt32.toInt32 = c := by
  rw [i2c_mask]
  have h1 := c_mask (lo8 c) 255 8 (by decide) (by decide)
  rw [lo8_i] at h1
  rw [← Int32.toInt_inj, h1]
  simp only [Int32.lt_iff_toInt_lt, Int32.reduceToInt] at q
  simp only [Int.bmod_def]; omega
theorem u16_get {c : Int32} (q : ¬ c < 0 ∧ ¬ 65535 < c) : ((lo8 c &&& 255) ||| ((hi8 c &&& 255) <<< ((8 : Int32) &&& 31))).toUInt32.toUInt16.toUInt32.toInt32 = c := by
  have h1 := c_mask (lo8 c) 255 8 (by decide) (by decide)
  have h2 := c_mask (hi8 c) 255 8 (by decide) (by decide)
  rw [lo8_i] at h1
  rw [hi8_i] at h2
  have h3 := c_ishl (hi8 c &&& 255) 8 8 (by decide)
  have h4 := rng32 ((hi8 c &&& 255) <<< ((8 : Int32) &&& 31))
  simp only [Int32.lt_iff_toInt_lt, Int32.reduceToInt] at q
  simp only [Int.bmod_def] at h1 h2
  have h5 := c_or' (lo8 c &&& 255) ((hi8 c &&& 255) <<< ((8 : Int32) &&& 31)) 8 (by decide) 256 (by decide) (by omega) (by omega) (by omega)
  have h6 := rng32 ((lo8 c &&& 255) ||| ((hi8 c &&& 255) <<< ((8 : Int32) &&& 31)))
  have h7 := c_i2c ((lo8 c &&& 255) ||| ((hi8 c &&& 255) <<< ((8 : Int32) &&& 31)))
  rw [← Int32.toInt_inj]
  omega
/-- the String at a is UTF16 -/
def SU (Z : State) (h : Heap) (a b : Addr) (cs : List Int32) : Prop := Exa Z h a "java/lang/String" ∧ Fld Z h a "java/lang/String" "coder" "B" (.int 1) ∧ Fld Z h a "java/lang/String" "value" "[B" (.ref b) ∧ Ia Z h b .byte (u16 cs) ∧ chs cs ∧ ¬ lat cs
theorem SU.keep {Z : State} {h h' : Heap} {a b : Addr} {cs : List Int32} {ws : List Addr} (F : SU Z h a b cs) (K : Keep h h' ws) (qa : a ∉ ws) (qb : b ∉ ws) : SU Z h' a b cs := ⟨F.1.keep K, F.2.1.keep K qa, F.2.2.1.keep K qa, F.2.2.2.1.keep K qb, F.2.2.2.2⟩
/-- the String at a spells these chars -/
def St (Z : State) (h : Heap) (a b : Addr) (cs : List Int32) : Prop := SL Z h a b cs ∨ SU Z h a b cs
theorem St.keep {Z : State} {h h' : Heap} {a b : Addr} {cs : List Int32} {ws : List Addr} (F : St Z h a b cs) (K : Keep h h' ws) (qa : a ∉ ws) (qb : b ∉ ws) : St Z h' a b cs := F.imp (·.keep K qa qb) (·.keep K qa qb)
theorem St.exa {Z : State} {h : Heap} {a b : Addr} {cs : List Int32} (F : St Z h a b cs) : Exa Z h a "java/lang/String" := F.elim (·.1) (·.1)
theorem St.lta {Z : State} {h : Heap} {a b : Addr} {cs : List Int32} (F : St Z h a b cs) : h.size > a := F.exa.lt
theorem St.ltb {Z : State} {h : Heap} {a b : Addr} {cs : List Int32} (F : St Z h a b cs) : h.size > b := F.elim (·.2.2.2.1.lt) (·.2.2.2.1.lt)
theorem St.ch {Z : State} {h : Heap} {a b : Addr} {cs : List Int32} (F : St Z h a b cs) : chs cs := F.elim (fun q c hc => ⟨(q.2.2.2.2 c hc).1, by have := (q.2.2.2.2 c hc).2; simp only [Int32.lt_iff_toInt_lt, Int32.reduceToInt] at this ⊢; omega⟩) (·.2.2.2.2.1)
theorem St.len {Z : State} {h : Heap} {a b : Addr} {cs : List Int32} (F : St Z h a b cs) : cs.length < 2 ^ 31 := F.elim (·.len) (fun q => by have := q.2.2.2.1.len; rw [u16_len] at this; omega)
theorem lat_em (cs : List Int32) : lat cs ∨ ¬ lat cs := Classical.em _
end Str
theorem w0 {Z : State} {a0 : Array Value} (hw : ∀ d ∈ tables_1, d.before a0 Z = true) : (Jvm.Cond.constant "com/example/chanticleer/chanticleer/engine/NamesIsNamePinLaw" (7 : Nat) (2147483647 : Int32)).before a0 Z = true := hw _ (List.mem_of_getElem? (i := 0) rfl)
theorem w1 {Z : State} {a0 : Array Value} (hw : ∀ d ∈ tables_1, d.before a0 Z = true) : (Jvm.Cond.constant "com/example/chanticleer/chanticleer/engine/NamesIsNamePinLaw" (8 : Nat) (65535 : Int32)).before a0 Z = true := hw _ (List.mem_of_getElem? (i := 1) rfl)
theorem w2 {Z : State} {a0 : Array Value} (hw : ∀ d ∈ tables_1, d.before a0 Z = true) : (Jvm.Cond.classLink "com/example/chanticleer/chanticleer/engine/NamesIsNamePinLaw" (9 : Nat) "java/lang/String").before a0 Z = true := hw _ (List.mem_of_getElem? (i := 2) rfl)
theorem w3 {Z : State} {a0 : Array Value} (hw : ∀ d ∈ tables_1, d.before a0 Z = true) : (Jvm.Cond.instantiable "java/lang/String" (4 : Nat)).before a0 Z = true := hw _ (List.mem_of_getElem? (i := 3) rfl)
theorem w4 {Z : State} {a0 : Array Value} (hw : ∀ d ∈ tables_1, d.before a0 Z = true) : (Jvm.Cond.initialized "java/lang/String").before a0 Z = true := hw _ (List.mem_of_getElem? (i := 4) rfl)
theorem w5 {Z : State} {a0 : Array Value} (hw : ∀ d ∈ tables_1, d.before a0 Z = true) : (Jvm.Cond.arrayClass Jvm.ClassFile.FieldType.char).before a0 Z = true := hw _ (List.mem_of_getElem? (i := 5) rfl)
theorem w6 {Z : State} {a0 : Array Value} (hw : ∀ d ∈ tables_1, d.before a0 Z = true) : (Jvm.Cond.methodLink "com/example/chanticleer/chanticleer/engine/NamesIsNamePinLaw" (11 : Nat) ({ cls := "java/lang/String", name := "<init>", desc := "([C)V" } : Jvm.MethodName)).before a0 Z = true := hw _ (List.mem_of_getElem? (i := 6) rfl)
theorem w7 {Z : State} {a0 : Array Value} (hw : ∀ d ∈ tables_1, d.before a0 Z = true) : (Jvm.Cond.instanceMethod ({ cls := "java/lang/String", name := "<init>", desc := "([C)V" } : Jvm.MethodName)).before a0 Z = true := hw _ (List.mem_of_getElem? (i := 7) rfl)
theorem w8 {Z : State} {a0 : Array Value} (hw : ∀ d ∈ tables_1, d.before a0 Z = true) : (Jvm.Cond.code ({ cls := "java/lang/String", name := "<init>", desc := "([C)V" } : Jvm.MethodName) jdk_42_method_3_code (2 : Nat) (Option.none : Option Jvm.ClassFile.FieldType)).before a0 Z = true := hw _ (List.mem_of_getElem? (i := 8) rfl)
theorem w9 {Z : State} {a0 : Array Value} (hw : ∀ d ∈ tables_1, d.before a0 Z = true) : (Jvm.Cond.methodLink "java/lang/String" (27 : Nat) ({ cls := "java/lang/String", name := "<init>", desc := "([CIILjava/lang/Void;)V" } : Jvm.MethodName)).before a0 Z = true := hw _ (List.mem_of_getElem? (i := 9) rfl)
theorem w10 {Z : State} {a0 : Array Value} (hw : ∀ d ∈ tables_1, d.before a0 Z = true) : (Jvm.Cond.instanceMethod ({ cls := "java/lang/String", name := "<init>", desc := "([CIILjava/lang/Void;)V" } : Jvm.MethodName)).before a0 Z = true := hw _ (List.mem_of_getElem? (i := 10) rfl)
theorem w12 {Z : State} {a0 : Array Value} (hw : ∀ d ∈ tables_1, d.before a0 Z = true) : (Jvm.Cond.code ({ cls := "java/lang/String", name := "<init>", desc := "([CIILjava/lang/Void;)V" } : Jvm.MethodName) jdk_42_method_149_code (6 : Nat) (Option.none : Option Jvm.ClassFile.FieldType)).before a0 Z = true := hw _ (List.mem_of_getElem? (i := 12) rfl)
theorem w13 {Z : State} {a0 : Array Value} (hw : ∀ d ∈ tables_1, d.before a0 Z = true) : (Jvm.Cond.methodLink "java/lang/String" (1 : Nat) ({ cls := "java/lang/Object", name := "<init>", desc := "()V" } : Jvm.MethodName)).before a0 Z = true := hw _ (List.mem_of_getElem? (i := 13) rfl)
theorem w14 {Z : State} {a0 : Array Value} (hw : ∀ d ∈ tables_1, d.before a0 Z = true) : (Jvm.Cond.instanceMethod ({ cls := "java/lang/Object", name := "<init>", desc := "()V" } : Jvm.MethodName)).before a0 Z = true := hw _ (List.mem_of_getElem? (i := 14) rfl)
theorem w15 {Z : State} {a0 : Array Value} (hw : ∀ d ∈ tables_1, d.before a0 Z = true) : (Jvm.Cond.code ({ cls := "java/lang/Object", name := "<init>", desc := "()V" } : Jvm.MethodName) object_method_1_code (1 : Nat) (Option.none : Option Jvm.ClassFile.FieldType)).before a0 Z = true := hw _ (List.mem_of_getElem? (i := 15) rfl)
theorem w16 {Z : State} {a0 : Array Value} (hw : ∀ d ∈ tables_1, d.before a0 Z = true) : (Jvm.Cond.stringLink "java/lang/String" (7 : Nat) "").before a0 Z = true := hw _ (List.mem_of_getElem? (i := 16) rfl)
theorem w17 {Z : State} {a0 : Array Value} (hw : ∀ d ∈ tables_1, d.before a0 Z = true) : (Jvm.Cond.arrayClass Jvm.ClassFile.FieldType.byte).before a0 Z = true := hw _ (List.mem_of_getElem? (i := 17) rfl)
theorem w18 {Z : State} {a0 : Array Value} (hw : ∀ d ∈ tables_1, d.before a0 Z = true) : (Jvm.Cond.laysFinal "java/lang/String" "java/lang/String" "value" "[B").before a0 Z = true := hw _ (List.mem_of_getElem? (i := 18) rfl)
theorem w19 {Z : State} {a0 : Array Value} (hw : ∀ d ∈ tables_1, d.before a0 Z = true) : (Jvm.Cond.laysFinal "java/lang/String" "java/lang/String" "coder" "B").before a0 Z = true := hw _ (List.mem_of_getElem? (i := 19) rfl)
theorem w20 {Z : State} {a0 : Array Value} (hw : ∀ d ∈ tables_1, d.before a0 Z = true) : (Jvm.Cond.soleField "java/lang/String" "value").before a0 Z = true := hw _ (List.mem_of_getElem? (i := 20) rfl)
theorem w21 {Z : State} {a0 : Array Value} (hw : ∀ d ∈ tables_1, d.before a0 Z = true) : (Jvm.Cond.soleField "java/lang/String" "coder").before a0 Z = true := hw _ (List.mem_of_getElem? (i := 21) rfl)
theorem w22 {Z : State} {a0 : Array Value} (hw : ∀ d ∈ tables_1, d.before a0 Z = true) : (Jvm.Cond.fieldLink "java/lang/String" (9 : Nat) "java/lang/String" "value" "[B").before a0 Z = true := hw _ (List.mem_of_getElem? (i := 22) rfl)
theorem w23 {Z : State} {a0 : Array Value} (hw : ∀ d ∈ tables_1, d.before a0 Z = true) : (Jvm.Cond.fieldLink "java/lang/String" (15 : Nat) "java/lang/String" "coder" "B").before a0 Z = true := hw _ (List.mem_of_getElem? (i := 23) rfl)
theorem w24 {Z : State} {a0 : Array Value} (hw : ∀ d ∈ tables_1, d.before a0 Z = true) : (Jvm.Cond.methodLink "com/example/chanticleer/chanticleer/engine/NamesIsNamePinLaw" (20 : Nat) ({ cls := "com/example/chanticleer/chanticleer/engine/Names", name := "isName", desc := "(Ljava/lang/String;)Z" } : Jvm.MethodName)).before a0 Z = true := hw _ (List.mem_of_getElem? (i := 24) rfl)
theorem w25 {Z : State} {a0 : Array Value} (hw : ∀ d ∈ tables_1, d.before a0 Z = true) : (Jvm.Cond.static ({ cls := "com/example/chanticleer/chanticleer/engine/Names", name := "isName", desc := "(Ljava/lang/String;)Z" } : Jvm.MethodName)).before a0 Z = true := hw _ (List.mem_of_getElem? (i := 25) rfl)
theorem w26 {Z : State} {a0 : Array Value} (hw : ∀ d ∈ tables_1, d.before a0 Z = true) : (Jvm.Cond.initialized "com/example/chanticleer/chanticleer/engine/Names").before a0 Z = true := hw _ (List.mem_of_getElem? (i := 26) rfl)
theorem w27 {Z : State} {a0 : Array Value} (hw : ∀ d ∈ tables_1, d.before a0 Z = true) : (Jvm.Cond.code ({ cls := "com/example/chanticleer/chanticleer/engine/Names", name := "isName", desc := "(Ljava/lang/String;)Z" } : Jvm.MethodName) prog_33_method_2_code (2 : Nat) (Option.some Jvm.ClassFile.FieldType.boolean)).before a0 Z = true := hw _ (List.mem_of_getElem? (i := 27) rfl)
theorem w28 {Z : State} {a0 : Array Value} (hw : ∀ d ∈ tables_1, d.before a0 Z = true) : (Jvm.Cond.methodLink "com/example/chanticleer/chanticleer/engine/Names" (9 : Nat) ({ cls := "java/lang/String", name := "isEmpty", desc := "()Z" } : Jvm.MethodName)).before a0 Z = true := hw _ (List.mem_of_getElem? (i := 28) rfl)
theorem w29 {Z : State} {a0 : Array Value} (hw : ∀ d ∈ tables_1, d.before a0 Z = true) : (Jvm.Cond.declares ({ cls := "java/lang/String", name := "isEmpty", desc := "()Z" } : Jvm.MethodName)).before a0 Z = true := hw _ (List.mem_of_getElem? (i := 29) rfl)
theorem w30 {Z : State} {a0 : Array Value} (hw : ∀ d ∈ tables_1, d.before a0 Z = true) : (Jvm.Cond.instanceMethod ({ cls := "java/lang/String", name := "isEmpty", desc := "()Z" } : Jvm.MethodName)).before a0 Z = true := hw _ (List.mem_of_getElem? (i := 30) rfl)
theorem w31 {Z : State} {a0 : Array Value} (hw : ∀ d ∈ tables_1, d.before a0 Z = true) : (Jvm.Cond.selects "java/lang/String" ({ cls := "java/lang/String", name := "isEmpty", desc := "()Z" } : Jvm.MethodName) ({ cls := "java/lang/String", name := "isEmpty", desc := "()Z" } : Jvm.MethodName)).before a0 Z = true := hw _ (List.mem_of_getElem? (i := 31) rfl)
theorem w32 {Z : State} {a0 : Array Value} (hw : ∀ d ∈ tables_1, d.before a0 Z = true) : (Jvm.Cond.code ({ cls := "java/lang/String", name := "isEmpty", desc := "()Z" } : Jvm.MethodName) jdk_42_method_55_code (1 : Nat) (Option.some Jvm.ClassFile.FieldType.boolean)).before a0 Z = true := hw _ (List.mem_of_getElem? (i := 32) rfl)
theorem w33 {Z : State} {a0 : Array Value} (hw : ∀ d ∈ tables_1, d.before a0 Z = true) : (Jvm.Cond.fieldLink "java/lang/String" (38 : Nat) "java/lang/String" "COMPACT_STRINGS" "Z").before a0 Z = true := hw _ (List.mem_of_getElem? (i := 33) rfl)
theorem w34 {Z : State} {a0 : Array Value} (hw : ∀ d ∈ tables_1, d.before a0 Z = true) : (Jvm.Cond.methodLink "java/lang/String" (177 : Nat) ({ cls := "java/lang/StringUTF16", name := "compress", desc := "([CII)[B" } : Jvm.MethodName)).before a0 Z = true := hw _ (List.mem_of_getElem? (i := 34) rfl)
theorem w35 {Z : State} {a0 : Array Value} (hw : ∀ d ∈ tables_1, d.before a0 Z = true) : (Jvm.Cond.static ({ cls := "java/lang/StringUTF16", name := "compress", desc := "([CII)[B" } : Jvm.MethodName)).before a0 Z = true := hw _ (List.mem_of_getElem? (i := 35) rfl)
theorem w36 {Z : State} {a0 : Array Value} (hw : ∀ d ∈ tables_1, d.before a0 Z = true) : (Jvm.Cond.initialized "java/lang/StringUTF16").before a0 Z = true := hw _ (List.mem_of_getElem? (i := 36) rfl)
theorem w37 {Z : State} {a0 : Array Value} (hw : ∀ d ∈ tables_1, d.before a0 Z = true) : (Jvm.Cond.code ({ cls := "java/lang/StringUTF16", name := "compress", desc := "([CII)[B" } : Jvm.MethodName) jdk_52_method_16_code (6 : Nat) (Option.some (Jvm.ClassFile.FieldType.array Jvm.ClassFile.FieldType.byte))).before a0 Z = true := hw _ (List.mem_of_getElem? (i := 37) rfl)
theorem w38 {Z : State} {a0 : Array Value} (hw : ∀ d ∈ tables_1, d.before a0 Z = true) : (Jvm.Cond.methodLink "java/lang/StringUTF16" (115 : Nat) ({ cls := "java/lang/StringUTF16", name := "compress", desc := "([CI[BII)I" } : Jvm.MethodName)).before a0 Z = true := hw _ (List.mem_of_getElem? (i := 38) rfl)
theorem w39 {Z : State} {a0 : Array Value} (hw : ∀ d ∈ tables_1, d.before a0 Z = true) : (Jvm.Cond.static ({ cls := "java/lang/StringUTF16", name := "compress", desc := "([CI[BII)I" } : Jvm.MethodName)).before a0 Z = true := hw _ (List.mem_of_getElem? (i := 39) rfl)
theorem w40 {Z : State} {a0 : Array Value} (hw : ∀ d ∈ tables_1, d.before a0 Z = true) : (Jvm.Cond.code ({ cls := "java/lang/StringUTF16", name := "compress", desc := "([CI[BII)I" } : Jvm.MethodName) jdk_52_method_21_code (7 : Nat) (Option.some Jvm.ClassFile.FieldType.int)).before a0 Z = true := hw _ (List.mem_of_getElem? (i := 40) rfl)
theorem w41 {Z : State} {a0 : Array Value} (hw : ∀ d ∈ tables_1, d.before a0 Z = true) : (Jvm.Cond.methodLink "java/lang/String" (47 : Nat) ({ cls := "java/lang/StringUTF16", name := "coderFromArrayLen", desc := "([BI)B" } : Jvm.MethodName)).before a0 Z = true := hw _ (List.mem_of_getElem? (i := 41) rfl)
theorem w42 {Z : State} {a0 : Array Value} (hw : ∀ d ∈ tables_1, d.before a0 Z = true) : (Jvm.Cond.static ({ cls := "java/lang/StringUTF16", name := "coderFromArrayLen", desc := "([BI)B" } : Jvm.MethodName)).before a0 Z = true := hw _ (List.mem_of_getElem? (i := 42) rfl)
theorem w43 {Z : State} {a0 : Array Value} (hw : ∀ d ∈ tables_1, d.before a0 Z = true) : (Jvm.Cond.code ({ cls := "java/lang/StringUTF16", name := "coderFromArrayLen", desc := "([BI)B" } : Jvm.MethodName) jdk_52_method_15_code (2 : Nat) (Option.some Jvm.ClassFile.FieldType.byte)).before a0 Z = true := hw _ (List.mem_of_getElem? (i := 43) rfl)
theorem w44 {Z : State} {a0 : Array Value} (hw : ∀ d ∈ tables_1, d.before a0 Z = true) : (Jvm.Cond.methodLink "com/example/chanticleer/chanticleer/engine/NamesIsNamePinLaw" (14 : Nat) ({ cls := "com/example/chanticleer/chanticleer/engine/NamesIsNamePinLaw", name := "ok", desc := "(C)Z" } : Jvm.MethodName)).before a0 Z = true := hw _ (List.mem_of_getElem? (i := 44) rfl)
theorem w45 {Z : State} {a0 : Array Value} (hw : ∀ d ∈ tables_1, d.before a0 Z = true) : (Jvm.Cond.static ({ cls := "com/example/chanticleer/chanticleer/engine/NamesIsNamePinLaw", name := "ok", desc := "(C)Z" } : Jvm.MethodName)).before a0 Z = true := hw _ (List.mem_of_getElem? (i := 45) rfl)
theorem w46 {Z : State} {a0 : Array Value} (hw : ∀ d ∈ tables_1, d.before a0 Z = true) : (Jvm.Cond.initialized "com/example/chanticleer/chanticleer/engine/NamesIsNamePinLaw").before a0 Z = true := hw _ (List.mem_of_getElem? (i := 46) rfl)
theorem w47 {Z : State} {a0 : Array Value} (hw : ∀ d ∈ tables_1, d.before a0 Z = true) : (Jvm.Cond.code ({ cls := "com/example/chanticleer/chanticleer/engine/NamesIsNamePinLaw", name := "ok", desc := "(C)Z" } : Jvm.MethodName) method_2_code (1 : Nat) (Option.some Jvm.ClassFile.FieldType.boolean)).before a0 Z = true := hw _ (List.mem_of_getElem? (i := 47) rfl)
theorem w48 {Z : State} {a0 : Array Value} (hw : ∀ d ∈ tables_1, d.before a0 Z = true) : (Jvm.Cond.methodLink "com/example/chanticleer/chanticleer/engine/Names" (15 : Nat) ({ cls := "java/lang/String", name := "length", desc := "()I" } : Jvm.MethodName)).before a0 Z = true := hw _ (List.mem_of_getElem? (i := 48) rfl)
theorem w49 {Z : State} {a0 : Array Value} (hw : ∀ d ∈ tables_1, d.before a0 Z = true) : (Jvm.Cond.declares ({ cls := "java/lang/String", name := "length", desc := "()I" } : Jvm.MethodName)).before a0 Z = true := hw _ (List.mem_of_getElem? (i := 49) rfl)
theorem w50 {Z : State} {a0 : Array Value} (hw : ∀ d ∈ tables_1, d.before a0 Z = true) : (Jvm.Cond.instanceMethod ({ cls := "java/lang/String", name := "length", desc := "()I" } : Jvm.MethodName)).before a0 Z = true := hw _ (List.mem_of_getElem? (i := 50) rfl)
theorem w51 {Z : State} {a0 : Array Value} (hw : ∀ d ∈ tables_1, d.before a0 Z = true) : (Jvm.Cond.selects "java/lang/String" ({ cls := "java/lang/String", name := "length", desc := "()I" } : Jvm.MethodName) ({ cls := "java/lang/String", name := "length", desc := "()I" } : Jvm.MethodName)).before a0 Z = true := hw _ (List.mem_of_getElem? (i := 51) rfl)
theorem w52 {Z : State} {a0 : Array Value} (hw : ∀ d ∈ tables_1, d.before a0 Z = true) : (Jvm.Cond.code ({ cls := "java/lang/String", name := "length", desc := "()I" } : Jvm.MethodName) jdk_42_method_54_code (1 : Nat) (Option.some Jvm.ClassFile.FieldType.int)).before a0 Z = true := hw _ (List.mem_of_getElem? (i := 52) rfl)
theorem w53 {Z : State} {a0 : Array Value} (hw : ∀ d ∈ tables_1, d.before a0 Z = true) : (Jvm.Cond.methodLink "java/lang/String" (335 : Nat) ({ cls := "java/lang/String", name := "coder", desc := "()B" } : Jvm.MethodName)).before a0 Z = true := hw _ (List.mem_of_getElem? (i := 53) rfl)
theorem w54 {Z : State} {a0 : Array Value} (hw : ∀ d ∈ tables_1, d.before a0 Z = true) : (Jvm.Cond.declares ({ cls := "java/lang/String", name := "coder", desc := "()B" } : Jvm.MethodName)).before a0 Z = true := hw _ (List.mem_of_getElem? (i := 54) rfl)
theorem w55 {Z : State} {a0 : Array Value} (hw : ∀ d ∈ tables_1, d.before a0 Z = true) : (Jvm.Cond.instanceMethod ({ cls := "java/lang/String", name := "coder", desc := "()B" } : Jvm.MethodName)).before a0 Z = true := hw _ (List.mem_of_getElem? (i := 55) rfl)
theorem w56 {Z : State} {a0 : Array Value} (hw : ∀ d ∈ tables_1, d.before a0 Z = true) : (Jvm.Cond.selects "java/lang/String" ({ cls := "java/lang/String", name := "coder", desc := "()B" } : Jvm.MethodName) ({ cls := "java/lang/String", name := "coder", desc := "()B" } : Jvm.MethodName)).before a0 Z = true := hw _ (List.mem_of_getElem? (i := 56) rfl)
theorem w57 {Z : State} {a0 : Array Value} (hw : ∀ d ∈ tables_1, d.before a0 Z = true) : (Jvm.Cond.code ({ cls := "java/lang/String", name := "coder", desc := "()B" } : Jvm.MethodName) jdk_42_method_152_code (1 : Nat) (Option.some Jvm.ClassFile.FieldType.byte)).before a0 Z = true := hw _ (List.mem_of_getElem? (i := 57) rfl)
theorem w58 {Z : State} {a0 : Array Value} (hw : ∀ d ∈ tables_1, d.before a0 Z = true) : (Jvm.Cond.methodLink "com/example/chanticleer/chanticleer/engine/Names" (19 : Nat) ({ cls := "java/lang/String", name := "charAt", desc := "(I)C" } : Jvm.MethodName)).before a0 Z = true := hw _ (List.mem_of_getElem? (i := 58) rfl)
theorem w59 {Z : State} {a0 : Array Value} (hw : ∀ d ∈ tables_1, d.before a0 Z = true) : (Jvm.Cond.declares ({ cls := "java/lang/String", name := "charAt", desc := "(I)C" } : Jvm.MethodName)).before a0 Z = true := hw _ (List.mem_of_getElem? (i := 59) rfl)
theorem w60 {Z : State} {a0 : Array Value} (hw : ∀ d ∈ tables_1, d.before a0 Z = true) : (Jvm.Cond.instanceMethod ({ cls := "java/lang/String", name := "charAt", desc := "(I)C" } : Jvm.MethodName)).before a0 Z = true := hw _ (List.mem_of_getElem? (i := 60) rfl)
theorem w61 {Z : State} {a0 : Array Value} (hw : ∀ d ∈ tables_1, d.before a0 Z = true) : (Jvm.Cond.selects "java/lang/String" ({ cls := "java/lang/String", name := "charAt", desc := "(I)C" } : Jvm.MethodName) ({ cls := "java/lang/String", name := "charAt", desc := "(I)C" } : Jvm.MethodName)).before a0 Z = true := hw _ (List.mem_of_getElem? (i := 61) rfl)
theorem w62 {Z : State} {a0 : Array Value} (hw : ∀ d ∈ tables_1, d.before a0 Z = true) : (Jvm.Cond.code ({ cls := "java/lang/String", name := "charAt", desc := "(I)C" } : Jvm.MethodName) jdk_42_method_56_code (2 : Nat) (Option.some Jvm.ClassFile.FieldType.char)).before a0 Z = true := hw _ (List.mem_of_getElem? (i := 62) rfl)
theorem w63 {Z : State} {a0 : Array Value} (hw : ∀ d ∈ tables_1, d.before a0 Z = true) : (Jvm.Cond.methodLink "java/lang/String" (492 : Nat) ({ cls := "java/lang/String", name := "isLatin1", desc := "()Z" } : Jvm.MethodName)).before a0 Z = true := hw _ (List.mem_of_getElem? (i := 63) rfl)
theorem w64 {Z : State} {a0 : Array Value} (hw : ∀ d ∈ tables_1, d.before a0 Z = true) : (Jvm.Cond.declares ({ cls := "java/lang/String", name := "isLatin1", desc := "()Z" } : Jvm.MethodName)).before a0 Z = true := hw _ (List.mem_of_getElem? (i := 64) rfl)
theorem w65 {Z : State} {a0 : Array Value} (hw : ∀ d ∈ tables_1, d.before a0 Z = true) : (Jvm.Cond.instanceMethod ({ cls := "java/lang/String", name := "isLatin1", desc := "()Z" } : Jvm.MethodName)).before a0 Z = true := hw _ (List.mem_of_getElem? (i := 65) rfl)
theorem w66 {Z : State} {a0 : Array Value} (hw : ∀ d ∈ tables_1, d.before a0 Z = true) : (Jvm.Cond.selects "java/lang/String" ({ cls := "java/lang/String", name := "isLatin1", desc := "()Z" } : Jvm.MethodName) ({ cls := "java/lang/String", name := "isLatin1", desc := "()Z" } : Jvm.MethodName)).before a0 Z = true := hw _ (List.mem_of_getElem? (i := 66) rfl)
theorem w67 {Z : State} {a0 : Array Value} (hw : ∀ d ∈ tables_1, d.before a0 Z = true) : (Jvm.Cond.code ({ cls := "java/lang/String", name := "isLatin1", desc := "()Z" } : Jvm.MethodName) jdk_42_method_154_code (1 : Nat) (Option.some Jvm.ClassFile.FieldType.boolean)).before a0 Z = true := hw _ (List.mem_of_getElem? (i := 67) rfl)
theorem w68 {Z : State} {a0 : Array Value} (hw : ∀ d ∈ tables_1, d.before a0 Z = true) : (Jvm.Cond.methodLink "java/lang/String" (495 : Nat) ({ cls := "java/lang/StringLatin1", name := "charAt", desc := "([BI)C" } : Jvm.MethodName)).before a0 Z = true := hw _ (List.mem_of_getElem? (i := 68) rfl)
theorem w69 {Z : State} {a0 : Array Value} (hw : ∀ d ∈ tables_1, d.before a0 Z = true) : (Jvm.Cond.static ({ cls := "java/lang/StringLatin1", name := "charAt", desc := "([BI)C" } : Jvm.MethodName)).before a0 Z = true := hw _ (List.mem_of_getElem? (i := 69) rfl)
theorem w70 {Z : State} {a0 : Array Value} (hw : ∀ d ∈ tables_1, d.before a0 Z = true) : (Jvm.Cond.initialized "java/lang/StringLatin1").before a0 Z = true := hw _ (List.mem_of_getElem? (i := 70) rfl)
theorem w71 {Z : State} {a0 : Array Value} (hw : ∀ d ∈ tables_1, d.before a0 Z = true) : (Jvm.Cond.code ({ cls := "java/lang/StringLatin1", name := "charAt", desc := "([BI)C" } : Jvm.MethodName) jdk_43_method_2_code (2 : Nat) (Option.some Jvm.ClassFile.FieldType.char)).before a0 Z = true := hw _ (List.mem_of_getElem? (i := 71) rfl)
theorem w72 {Z : State} {a0 : Array Value} (hw : ∀ d ∈ tables_1, d.before a0 Z = true) : (Jvm.Cond.methodLink "java/lang/StringLatin1" (9 : Nat) ({ cls := "java/lang/String", name := "checkIndex", desc := "(II)V" } : Jvm.MethodName)).before a0 Z = true := hw _ (List.mem_of_getElem? (i := 72) rfl)
theorem w73 {Z : State} {a0 : Array Value} (hw : ∀ d ∈ tables_1, d.before a0 Z = true) : (Jvm.Cond.static ({ cls := "java/lang/String", name := "checkIndex", desc := "(II)V" } : Jvm.MethodName)).before a0 Z = true := hw _ (List.mem_of_getElem? (i := 73) rfl)
theorem w74 {Z : State} {a0 : Array Value} (hw : ∀ d ∈ tables_1, d.before a0 Z = true) : (Jvm.Cond.code ({ cls := "java/lang/String", name := "checkIndex", desc := "(II)V" } : Jvm.MethodName) jdk_42_method_155_code (2 : Nat) (Option.none : Option Jvm.ClassFile.FieldType)).before a0 Z = true := hw _ (List.mem_of_getElem? (i := 74) rfl)
theorem w75 {Z : State} {a0 : Array Value} (hw : ∀ d ∈ tables_1, d.before a0 Z = true) : (Jvm.Cond.fieldLink "java/lang/String" (1053 : Nat) "jdk/internal/util/Preconditions" "SIOOBE_FORMATTER" "Ljava/util/function/BiFunction;").before a0 Z = true := hw _ (List.mem_of_getElem? (i := 75) rfl)
theorem w76 {Z : State} {a0 : Array Value} (hw : ∀ d ∈ tables_1, d.before a0 Z = true) : (Jvm.Cond.initialized "jdk/internal/util/Preconditions").before a0 Z = true := hw _ (List.mem_of_getElem? (i := 76) rfl)
theorem w77 {Z : State} {a0 : Array Value} (hw : ∀ d ∈ tables_1, d.before a0 Z = true) : (Jvm.Cond.methodLink "java/lang/String" (1059 : Nat) ({ cls := "jdk/internal/util/Preconditions", name := "checkIndex", desc := "(IILjava/util/function/BiFunction;)I" } : Jvm.MethodName)).before a0 Z = true := hw _ (List.mem_of_getElem? (i := 77) rfl)
theorem w78 {Z : State} {a0 : Array Value} (hw : ∀ d ∈ tables_1, d.before a0 Z = true) : (Jvm.Cond.static ({ cls := "jdk/internal/util/Preconditions", name := "checkIndex", desc := "(IILjava/util/function/BiFunction;)I" } : Jvm.MethodName)).before a0 Z = true := hw _ (List.mem_of_getElem? (i := 78) rfl)
theorem w79 {Z : State} {a0 : Array Value} (hw : ∀ d ∈ tables_1, d.before a0 Z = true) : (Jvm.Cond.code ({ cls := "jdk/internal/util/Preconditions", name := "checkIndex", desc := "(IILjava/util/function/BiFunction;)I" } : Jvm.MethodName) jdk_41_method_11_code (3 : Nat) (Option.some Jvm.ClassFile.FieldType.int)).before a0 Z = true := hw _ (List.mem_of_getElem? (i := 79) rfl)
theorem w80 {Z : State} {a0 : Array Value} (hw : ∀ d ∈ tables_1, d.before a0 Z = true) : (Jvm.Cond.methodLink "com/example/chanticleer/chanticleer/engine/Names" (23 : Nat) ({ cls := "com/example/chanticleer/chanticleer/engine/Names", name := "isNameCharacter", desc := "(C)Z" } : Jvm.MethodName)).before a0 Z = true := hw _ (List.mem_of_getElem? (i := 80) rfl)
theorem w81 {Z : State} {a0 : Array Value} (hw : ∀ d ∈ tables_1, d.before a0 Z = true) : (Jvm.Cond.static ({ cls := "com/example/chanticleer/chanticleer/engine/Names", name := "isNameCharacter", desc := "(C)Z" } : Jvm.MethodName)).before a0 Z = true := hw _ (List.mem_of_getElem? (i := 81) rfl)
theorem w82 {Z : State} {a0 : Array Value} (hw : ∀ d ∈ tables_1, d.before a0 Z = true) : (Jvm.Cond.code ({ cls := "com/example/chanticleer/chanticleer/engine/Names", name := "isNameCharacter", desc := "(C)Z" } : Jvm.MethodName) prog_33_method_3_code (1 : Nat) (Option.some Jvm.ClassFile.FieldType.boolean)).before a0 Z = true := hw _ (List.mem_of_getElem? (i := 82) rfl)
theorem w83 {Z : State} {a0 : Array Value} (hw : ∀ d ∈ tables_1, d.before a0 Z = true) : (Jvm.Cond.methodLink "java/lang/StringUTF16" (119 : Nat) ({ cls := "java/lang/StringUTF16", name := "toBytes", desc := "([CII)[B" } : Jvm.MethodName)).before a0 Z = true := hw _ (List.mem_of_getElem? (i := 83) rfl)
theorem w84 {Z : State} {a0 : Array Value} (hw : ∀ d ∈ tables_1, d.before a0 Z = true) : (Jvm.Cond.static ({ cls := "java/lang/StringUTF16", name := "toBytes", desc := "([CII)[B" } : Jvm.MethodName)).before a0 Z = true := hw _ (List.mem_of_getElem? (i := 84) rfl)
theorem w85 {Z : State} {a0 : Array Value} (hw : ∀ d ∈ tables_1, d.before a0 Z = true) : (Jvm.Cond.code ({ cls := "java/lang/StringUTF16", name := "toBytes", desc := "([CII)[B" } : Jvm.MethodName) jdk_52_method_14_code (5 : Nat) (Option.some (Jvm.ClassFile.FieldType.array Jvm.ClassFile.FieldType.byte))).before a0 Z = true := hw _ (List.mem_of_getElem? (i := 85) rfl)
theorem w86 {Z : State} {a0 : Array Value} (hw : ∀ d ∈ tables_1, d.before a0 Z = true) : (Jvm.Cond.methodLink "java/lang/StringUTF16" (107 : Nat) ({ cls := "java/lang/StringUTF16", name := "newBytesFor", desc := "(I)[B" } : Jvm.MethodName)).before a0 Z = true := hw _ (List.mem_of_getElem? (i := 86) rfl)
theorem w87 {Z : State} {a0 : Array Value} (hw : ∀ d ∈ tables_1, d.before a0 Z = true) : (Jvm.Cond.static ({ cls := "java/lang/StringUTF16", name := "newBytesFor", desc := "(I)[B" } : Jvm.MethodName)).before a0 Z = true := hw _ (List.mem_of_getElem? (i := 87) rfl)
theorem w88 {Z : State} {a0 : Array Value} (hw : ∀ d ∈ tables_1, d.before a0 Z = true) : (Jvm.Cond.code ({ cls := "java/lang/StringUTF16", name := "newBytesFor", desc := "(I)[B" } : Jvm.MethodName) jdk_52_method_2_code (1 : Nat) (Option.some (Jvm.ClassFile.FieldType.array Jvm.ClassFile.FieldType.byte))).before a0 Z = true := hw _ (List.mem_of_getElem? (i := 88) rfl)
theorem w89 {Z : State} {a0 : Array Value} (hw : ∀ d ∈ tables_1, d.before a0 Z = true) : (Jvm.Cond.methodLink "java/lang/StringUTF16" (11 : Nat) ({ cls := "java/lang/StringUTF16", name := "newBytesLength", desc := "(I)I" } : Jvm.MethodName)).before a0 Z = true := hw _ (List.mem_of_getElem? (i := 89) rfl)
theorem w90 {Z : State} {a0 : Array Value} (hw : ∀ d ∈ tables_1, d.before a0 Z = true) : (Jvm.Cond.static ({ cls := "java/lang/StringUTF16", name := "newBytesLength", desc := "(I)I" } : Jvm.MethodName)).before a0 Z = true := hw _ (List.mem_of_getElem? (i := 90) rfl)
theorem w91 {Z : State} {a0 : Array Value} (hw : ∀ d ∈ tables_1, d.before a0 Z = true) : (Jvm.Cond.code ({ cls := "java/lang/StringUTF16", name := "newBytesLength", desc := "(I)I" } : Jvm.MethodName) jdk_52_method_3_code (1 : Nat) (Option.some Jvm.ClassFile.FieldType.int)).before a0 Z = true := hw _ (List.mem_of_getElem? (i := 91) rfl)
theorem w92 {Z : State} {a0 : Array Value} (hw : ∀ d ∈ tables_1, d.before a0 Z = true) : (Jvm.Cond.constant "java/lang/StringUTF16" (20 : Nat) (1073741823 : Int32)).before a0 Z = true := hw _ (List.mem_of_getElem? (i := 92) rfl)
theorem w93 {Z : State} {a0 : Array Value} (hw : ∀ d ∈ tables_1, d.before a0 Z = true) : (Jvm.Cond.methodLink "java/lang/StringUTF16" (111 : Nat) ({ cls := "java/lang/StringUTF16", name := "putChar", desc := "([BII)V" } : Jvm.MethodName)).before a0 Z = true := hw _ (List.mem_of_getElem? (i := 93) rfl)
theorem w94 {Z : State} {a0 : Array Value} (hw : ∀ d ∈ tables_1, d.before a0 Z = true) : (Jvm.Cond.static ({ cls := "java/lang/StringUTF16", name := "putChar", desc := "([BII)V" } : Jvm.MethodName)).before a0 Z = true := hw _ (List.mem_of_getElem? (i := 94) rfl)
theorem w95 {Z : State} {a0 : Array Value} (hw : ∀ d ∈ tables_1, d.before a0 Z = true) : (Jvm.Cond.code ({ cls := "java/lang/StringUTF16", name := "putChar", desc := "([BII)V" } : Jvm.MethodName) jdk_52_method_4_code (3 : Nat) (Option.none : Option Jvm.ClassFile.FieldType)).before a0 Z = true := hw _ (List.mem_of_getElem? (i := 95) rfl)
theorem w96 {Z : State} {a0 : Array Value} (hw : ∀ d ∈ tables_1, d.before a0 Z = true) : (Jvm.Cond.fieldLink "java/lang/StringUTF16" (44 : Nat) "java/lang/StringUTF16" "$assertionsDisabled" "Z").before a0 Z = true := hw _ (List.mem_of_getElem? (i := 96) rfl)
theorem w97 {Z : State} {a0 : Array Value} (hw : ∀ d ∈ tables_1, d.before a0 Z = true) : (Jvm.Cond.fieldLink "java/lang/StringUTF16" (59 : Nat) "java/lang/StringUTF16" "HI_BYTE_SHIFT" "I").before a0 Z = true := hw _ (List.mem_of_getElem? (i := 97) rfl)
theorem w98 {Z : State} {a0 : Array Value} (hw : ∀ d ∈ tables_1, d.before a0 Z = true) : (Jvm.Cond.fieldLink "java/lang/StringUTF16" (63 : Nat) "java/lang/StringUTF16" "LO_BYTE_SHIFT" "I").before a0 Z = true := hw _ (List.mem_of_getElem? (i := 98) rfl)
theorem w99 {Z : State} {a0 : Array Value} (hw : ∀ d ∈ tables_1, d.before a0 Z = true) : (Jvm.Cond.methodLink "java/lang/StringUTF16" (71 : Nat) ({ cls := "java/lang/StringUTF16", name := "getChar", desc := "([BI)C" } : Jvm.MethodName)).before a0 Z = true := hw _ (List.mem_of_getElem? (i := 99) rfl)
theorem w100 {Z : State} {a0 : Array Value} (hw : ∀ d ∈ tables_1, d.before a0 Z = true) : (Jvm.Cond.static ({ cls := "java/lang/StringUTF16", name := "getChar", desc := "([BI)C" } : Jvm.MethodName)).before a0 Z = true := hw _ (List.mem_of_getElem? (i := 100) rfl)
theorem w101 {Z : State} {a0 : Array Value} (hw : ∀ d ∈ tables_1, d.before a0 Z = true) : (Jvm.Cond.code ({ cls := "java/lang/StringUTF16", name := "getChar", desc := "([BI)C" } : Jvm.MethodName) jdk_52_method_5_code (2 : Nat) (Option.some Jvm.ClassFile.FieldType.char)).before a0 Z = true := hw _ (List.mem_of_getElem? (i := 101) rfl)
theorem w102 {Z : State} {a0 : Array Value} (hw : ∀ d ∈ tables_1, d.before a0 Z = true) : (Jvm.Cond.methodLink "java/lang/String" (498 : Nat) ({ cls := "java/lang/StringUTF16", name := "charAt", desc := "([BI)C" } : Jvm.MethodName)).before a0 Z = true := hw _ (List.mem_of_getElem? (i := 102) rfl)
theorem w103 {Z : State} {a0 : Array Value} (hw : ∀ d ∈ tables_1, d.before a0 Z = true) : (Jvm.Cond.static ({ cls := "java/lang/StringUTF16", name := "charAt", desc := "([BI)C" } : Jvm.MethodName)).before a0 Z = true := hw _ (List.mem_of_getElem? (i := 103) rfl)
theorem w104 {Z : State} {a0 : Array Value} (hw : ∀ d ∈ tables_1, d.before a0 Z = true) : (Jvm.Cond.code ({ cls := "java/lang/StringUTF16", name := "charAt", desc := "([BI)C" } : Jvm.MethodName) jdk_52_method_83_code (2 : Nat) (Option.some Jvm.ClassFile.FieldType.char)).before a0 Z = true := hw _ (List.mem_of_getElem? (i := 104) rfl)
theorem w105 {Z : State} {a0 : Array Value} (hw : ∀ d ∈ tables_1, d.before a0 Z = true) : (Jvm.Cond.methodLink "java/lang/StringUTF16" (67 : Nat) ({ cls := "java/lang/StringUTF16", name := "checkIndex", desc := "(I[B)V" } : Jvm.MethodName)).before a0 Z = true := hw _ (List.mem_of_getElem? (i := 105) rfl)
theorem w106 {Z : State} {a0 : Array Value} (hw : ∀ d ∈ tables_1, d.before a0 Z = true) : (Jvm.Cond.static ({ cls := "java/lang/StringUTF16", name := "checkIndex", desc := "(I[B)V" } : Jvm.MethodName)).before a0 Z = true := hw _ (List.mem_of_getElem? (i := 106) rfl)
theorem w107 {Z : State} {a0 : Array Value} (hw : ∀ d ∈ tables_1, d.before a0 Z = true) : (Jvm.Cond.code ({ cls := "java/lang/StringUTF16", name := "checkIndex", desc := "(I[B)V" } : Jvm.MethodName) jdk_52_method_91_code (2 : Nat) (Option.none : Option Jvm.ClassFile.FieldType)).before a0 Z = true := hw _ (List.mem_of_getElem? (i := 107) rfl)
theorem w108 {Z : State} {a0 : Array Value} (hw : ∀ d ∈ tables_1, d.before a0 Z = true) : (Jvm.Cond.methodLink "java/lang/StringUTF16" (48 : Nat) ({ cls := "java/lang/StringUTF16", name := "length", desc := "([B)I" } : Jvm.MethodName)).before a0 Z = true := hw _ (List.mem_of_getElem? (i := 108) rfl)
theorem w109 {Z : State} {a0 : Array Value} (hw : ∀ d ∈ tables_1, d.before a0 Z = true) : (Jvm.Cond.static ({ cls := "java/lang/StringUTF16", name := "length", desc := "([B)I" } : Jvm.MethodName)).before a0 Z = true := hw _ (List.mem_of_getElem? (i := 109) rfl)
theorem w110 {Z : State} {a0 : Array Value} (hw : ∀ d ∈ tables_1, d.before a0 Z = true) : (Jvm.Cond.code ({ cls := "java/lang/StringUTF16", name := "length", desc := "([B)I" } : Jvm.MethodName) jdk_52_method_6_code (1 : Nat) (Option.some Jvm.ClassFile.FieldType.int)).before a0 Z = true := hw _ (List.mem_of_getElem? (i := 110) rfl)
theorem w111 {Z : State} {a0 : Array Value} (hw : ∀ d ∈ tables_1, d.before a0 Z = true) : (Jvm.Cond.methodLink "java/lang/StringUTF16" (414 : Nat) ({ cls := "java/lang/String", name := "checkIndex", desc := "(II)V" } : Jvm.MethodName)).before a0 Z = true := hw _ (List.mem_of_getElem? (i := 111) rfl)
theorem pd0 : parseMethodDescriptor "(I)I" = some ⟨[.int], some .int⟩ := by decide +kernel
theorem pd1 : parseMethodDescriptor "(I)[B" = some ⟨[.int], some (.array .byte)⟩ := by decide +kernel
theorem pd2 : parseMethodDescriptor "([BII)V" = some ⟨[(.array .byte), .int, .int], none⟩ := by decide +kernel
theorem pd3 : parseMethodDescriptor "([CI[BII)I" = some ⟨[(.array .char), .int, (.array .byte), .int, .int], some .int⟩ := by decide +kernel
theorem pd4 : parseMethodDescriptor "([CII)[B" = some ⟨[(.array .char), .int, .int], some (.array .byte)⟩ := by decide +kernel
theorem pd5 : parseMethodDescriptor "([BI)C" = some ⟨[(.array .byte), .int], some .char⟩ := by decide +kernel
theorem pd6 : parseMethodDescriptor "([BI)B" = some ⟨[(.array .byte), .int], some .byte⟩ := by decide +kernel
theorem pd7 : parseMethodDescriptor "([CIILjava/lang/Void;)V" = some ⟨[(.array .char), .int, .int, (.object "java/lang/Void")], none⟩ := by decide +kernel
theorem pd8 : parseMethodDescriptor "()B" = some ⟨[], some .byte⟩ := by decide +kernel
theorem pd9 : parseMethodDescriptor "(IILjava/util/function/BiFunction;)I" = some ⟨[.int, .int, (.object "java/util/function/BiFunction")], some .int⟩ := by decide +kernel
theorem pd10 : parseMethodDescriptor "([B)I" = some ⟨[(.array .byte)], some .int⟩ := by decide +kernel
theorem pd11 : parseMethodDescriptor "(II)V" = some ⟨[.int, .int], none⟩ := by decide +kernel
theorem pd12 : parseMethodDescriptor "(I[B)V" = some ⟨[.int, (.array .byte)], none⟩ := by decide +kernel
theorem pd13 : parseMethodDescriptor "()Z" = some ⟨[], some .boolean⟩ := by decide +kernel
theorem pd14 : parseMethodDescriptor "()I" = some ⟨[], some .int⟩ := by decide +kernel
theorem pd15 : parseMethodDescriptor "(I)C" = some ⟨[.int], some .char⟩ := by decide +kernel
theorem pd16 : parseMethodDescriptor "(C)Z" = some ⟨[.char], some .boolean⟩ := by decide +kernel
theorem pd17 : parseMethodDescriptor "(Ljava/lang/String;)Z" = some ⟨[(.object "java/lang/String")], some .boolean⟩ := by decide +kernel
theorem pd18 : parseMethodDescriptor "([C)V" = some ⟨[(.array .char)], none⟩ := by decide +kernel
theorem dcmp5_0 : decode jdk_52_method_21_code 0 = .ok (.iconst 0, 1) := by decide +kernel
theorem dcmp5_1 : decode jdk_52_method_21_code 1 = .ok (.istore 5, 2) := by decide +kernel
theorem dcmp5_3 : decode jdk_52_method_21_code 3 = .ok (.iload 5, 2) := by decide +kernel
theorem dcmp5_5 : decode jdk_52_method_21_code 5 = .ok (.iload 4, 2) := by decide +kernel
theorem dcmp5_7 : decode jdk_52_method_21_code 7 = .ok (.if_icmp .ge 37, 3) := by decide +kernel
theorem dcmp5_10 : decode jdk_52_method_21_code 10 = .ok (.aload_n 0, 1) := by decide +kernel
theorem dcmp5_11 : decode jdk_52_method_21_code 11 = .ok (.iload_n 1, 1) := by decide +kernel
theorem dcmp5_12 : decode jdk_52_method_21_code 12 = .ok (.caload, 1) := by decide +kernel
theorem dcmp5_13 : decode jdk_52_method_21_code 13 = .ok (.istore 6, 2) := by decide +kernel
theorem dcmp5_15 : decode jdk_52_method_21_code 15 = .ok (.iload 6, 2) := by decide +kernel
theorem dcmp5_17 : decode jdk_52_method_21_code 17 = .ok (.sipush 255, 3) := by decide +kernel
theorem dcmp5_20 : decode jdk_52_method_21_code 20 = .ok (.if_icmp .le 6, 3) := by decide +kernel
theorem dcmp5_23 : decode jdk_52_method_21_code 23 = .ok (.iload 5, 2) := by decide +kernel
theorem dcmp5_25 : decode jdk_52_method_21_code 25 = .ok (.ireturn, 1) := by decide +kernel
theorem dcmp5_26 : decode jdk_52_method_21_code 26 = .ok (.aload_n 2, 1) := by decide +kernel
theorem dcmp5_27 : decode jdk_52_method_21_code 27 = .ok (.iload_n 3, 1) := by decide +kernel
theorem dcmp5_28 : decode jdk_52_method_21_code 28 = .ok (.iload 6, 2) := by decide +kernel
theorem dcmp5_30 : decode jdk_52_method_21_code 30 = .ok (.i2b, 1) := by decide +kernel
theorem dcmp5_31 : decode jdk_52_method_21_code 31 = .ok (.bastore, 1) := by decide +kernel
theorem dcmp5_32 : decode jdk_52_method_21_code 32 = .ok (.iinc 1 1, 3) := by decide +kernel
theorem dcmp5_35 : decode jdk_52_method_21_code 35 = .ok (.iinc 3 1, 3) := by decide +kernel
theorem dcmp5_38 : decode jdk_52_method_21_code 38 = .ok (.iinc 5 1, 3) := by decide +kernel
theorem dcmp5_41 : decode jdk_52_method_21_code 41 = .ok (.goto (-38), 3) := by decide +kernel
theorem dcmp5_44 : decode jdk_52_method_21_code 44 = .ok (.iload 4, 2) := by decide +kernel
theorem dcmp5_46 : decode jdk_52_method_21_code 46 = .ok (.ireturn, 1) := by decide +kernel
abbrev bcmp5 : wkB := (⟨"java/lang/StringUTF16", "compress", "([CI[BII)I"⟩, jdk_52_method_21_code, 7, (some .int))
theorem dcodL_0 : decode jdk_52_method_15_code 0 = .ok (.iload_n 1, 1) := by decide +kernel
theorem dcodL_1 : decode jdk_52_method_15_code 1 = .ok (.aload_n 0, 1) := by decide +kernel
theorem dcodL_2 : decode jdk_52_method_15_code 2 = .ok (.arraylength, 1) := by decide +kernel
theorem dcodL_3 : decode jdk_52_method_15_code 3 = .ok (.isub, 1) := by decide +kernel
theorem dcodL_4 : decode jdk_52_method_15_code 4 = .ok (.bipush 31, 2) := by decide +kernel
theorem dcodL_6 : decode jdk_52_method_15_code 6 = .ok (.iushr, 1) := by decide +kernel
theorem dcodL_7 : decode jdk_52_method_15_code 7 = .ok (.i2b, 1) := by decide +kernel
theorem dcodL_8 : decode jdk_52_method_15_code 8 = .ok (.ireturn, 1) := by decide +kernel
abbrev bcodL : wkB := (⟨"java/lang/StringUTF16", "coderFromArrayLen", "([BI)B"⟩, jdk_52_method_15_code, 2, (some .byte))
theorem dnbl_0 : decode jdk_52_method_3_code 0 = .ok (.iload_n 0, 1) := by decide +kernel
theorem dnbl_1 : decode jdk_52_method_3_code 1 = .ok (.ifCond .ge 11, 3) := by decide +kernel
theorem dnbl_12 : decode jdk_52_method_3_code 12 = .ok (.iload_n 0, 1) := by decide +kernel
theorem dnbl_13 : decode jdk_52_method_3_code 13 = .ok (.ldc 20, 2) := by decide +kernel
theorem dnbl_15 : decode jdk_52_method_3_code 15 = .ok (.if_icmp .lt 40, 3) := by decide +kernel
theorem dnbl_55 : decode jdk_52_method_3_code 55 = .ok (.iload_n 0, 1) := by decide +kernel
theorem dnbl_56 : decode jdk_52_method_3_code 56 = .ok (.iconst 1, 1) := by decide +kernel
theorem dnbl_57 : decode jdk_52_method_3_code 57 = .ok (.ishl, 1) := by decide +kernel
theorem dnbl_58 : decode jdk_52_method_3_code 58 = .ok (.ireturn, 1) := by decide +kernel
abbrev bnbl : wkB := (⟨"java/lang/StringUTF16", "newBytesLength", "(I)I"⟩, jdk_52_method_3_code, 1, (some .int))
theorem dnbf_0 : decode jdk_52_method_2_code 0 = .ok (.iload_n 0, 1) := by decide +kernel
theorem dnbf_1 : decode jdk_52_method_2_code 1 = .ok (.invokestatic 11, 3) := by decide +kernel
theorem dnbf_4 : decode jdk_52_method_2_code 4 = .ok (.newarray .byte, 2) := by decide +kernel
theorem dnbf_6 : decode jdk_52_method_2_code 6 = .ok (.areturn, 1) := by decide +kernel
abbrev bnbf : wkB := (⟨"java/lang/StringUTF16", "newBytesFor", "(I)[B"⟩, jdk_52_method_2_code, 1, (some (.array .byte)))
theorem dulen_0 : decode jdk_52_method_6_code 0 = .ok (.aload_n 0, 1) := by decide +kernel
theorem dulen_1 : decode jdk_52_method_6_code 1 = .ok (.arraylength, 1) := by decide +kernel
theorem dulen_2 : decode jdk_52_method_6_code 2 = .ok (.iconst 1, 1) := by decide +kernel
theorem dulen_3 : decode jdk_52_method_6_code 3 = .ok (.ishr, 1) := by decide +kernel
theorem dulen_4 : decode jdk_52_method_6_code 4 = .ok (.ireturn, 1) := by decide +kernel
abbrev bulen : wkB := (⟨"java/lang/StringUTF16", "length", "([B)I"⟩, jdk_52_method_6_code, 1, (some .int))
theorem dputC_0 : decode jdk_52_method_4_code 0 = .ok (.getstatic 44, 3) := by decide +kernel
theorem dputC_3 : decode jdk_52_method_4_code 3 = .ok (.ifCond .ne 25, 3) := by decide +kernel
theorem dputC_28 : decode jdk_52_method_4_code 28 = .ok (.iload_n 1, 1) := by decide +kernel
theorem dputC_29 : decode jdk_52_method_4_code 29 = .ok (.iconst 1, 1) := by decide +kernel
theorem dputC_30 : decode jdk_52_method_4_code 30 = .ok (.ishl, 1) := by decide +kernel
theorem dputC_31 : decode jdk_52_method_4_code 31 = .ok (.istore_n 1, 1) := by decide +kernel
theorem dputC_32 : decode jdk_52_method_4_code 32 = .ok (.aload_n 0, 1) := by decide +kernel
theorem dputC_33 : decode jdk_52_method_4_code 33 = .ok (.iload_n 1, 1) := by decide +kernel
theorem dputC_34 : decode jdk_52_method_4_code 34 = .ok (.iinc 1 1, 3) := by decide +kernel
theorem dputC_37 : decode jdk_52_method_4_code 37 = .ok (.iload_n 2, 1) := by decide +kernel
theorem dputC_38 : decode jdk_52_method_4_code 38 = .ok (.getstatic 59, 3) := by decide +kernel
theorem dputC_41 : decode jdk_52_method_4_code 41 = .ok (.ishr, 1) := by decide +kernel
theorem dputC_42 : decode jdk_52_method_4_code 42 = .ok (.i2b, 1) := by decide +kernel
theorem dputC_43 : decode jdk_52_method_4_code 43 = .ok (.bastore, 1) := by decide +kernel
theorem dputC_44 : decode jdk_52_method_4_code 44 = .ok (.aload_n 0, 1) := by decide +kernel
theorem dputC_45 : decode jdk_52_method_4_code 45 = .ok (.iload_n 1, 1) := by decide +kernel
theorem dputC_46 : decode jdk_52_method_4_code 46 = .ok (.iload_n 2, 1) := by decide +kernel
theorem dputC_47 : decode jdk_52_method_4_code 47 = .ok (.getstatic 63, 3) := by decide +kernel
theorem dputC_50 : decode jdk_52_method_4_code 50 = .ok (.ishr, 1) := by decide +kernel
theorem dputC_51 : decode jdk_52_method_4_code 51 = .ok (.i2b, 1) := by decide +kernel
theorem dputC_52 : decode jdk_52_method_4_code 52 = .ok (.bastore, 1) := by decide +kernel
theorem dputC_53 : decode jdk_52_method_4_code 53 = .ok (.return_, 1) := by decide +kernel
abbrev bputC : wkB := (⟨"java/lang/StringUTF16", "putChar", "([BII)V"⟩, jdk_52_method_4_code, 3, none)
theorem dgetC_0 : decode jdk_52_method_5_code 0 = .ok (.getstatic 44, 3) := by decide +kernel
theorem dgetC_3 : decode jdk_52_method_5_code 3 = .ok (.ifCond .ne 25, 3) := by decide +kernel
theorem dgetC_28 : decode jdk_52_method_5_code 28 = .ok (.iload_n 1, 1) := by decide +kernel
theorem dgetC_29 : decode jdk_52_method_5_code 29 = .ok (.iconst 1, 1) := by decide +kernel
theorem dgetC_30 : decode jdk_52_method_5_code 30 = .ok (.ishl, 1) := by decide +kernel
theorem dgetC_31 : decode jdk_52_method_5_code 31 = .ok (.istore_n 1, 1) := by decide +kernel
theorem dgetC_32 : decode jdk_52_method_5_code 32 = .ok (.aload_n 0, 1) := by decide +kernel
theorem dgetC_33 : decode jdk_52_method_5_code 33 = .ok (.iload_n 1, 1) := by decide +kernel
theorem dgetC_34 : decode jdk_52_method_5_code 34 = .ok (.iinc 1 1, 3) := by decide +kernel
theorem dgetC_37 : decode jdk_52_method_5_code 37 = .ok (.baload, 1) := by decide +kernel
theorem dgetC_38 : decode jdk_52_method_5_code 38 = .ok (.sipush 255, 3) := by decide +kernel
theorem dgetC_41 : decode jdk_52_method_5_code 41 = .ok (.iand, 1) := by decide +kernel
theorem dgetC_42 : decode jdk_52_method_5_code 42 = .ok (.getstatic 59, 3) := by decide +kernel
theorem dgetC_45 : decode jdk_52_method_5_code 45 = .ok (.ishl, 1) := by decide +kernel
theorem dgetC_46 : decode jdk_52_method_5_code 46 = .ok (.aload_n 0, 1) := by decide +kernel
theorem dgetC_47 : decode jdk_52_method_5_code 47 = .ok (.iload_n 1, 1) := by decide +kernel
theorem dgetC_48 : decode jdk_52_method_5_code 48 = .ok (.baload, 1) := by decide +kernel
theorem dgetC_49 : decode jdk_52_method_5_code 49 = .ok (.sipush 255, 3) := by decide +kernel
theorem dgetC_52 : decode jdk_52_method_5_code 52 = .ok (.iand, 1) := by decide +kernel
theorem dgetC_53 : decode jdk_52_method_5_code 53 = .ok (.getstatic 63, 3) := by decide +kernel
theorem dgetC_56 : decode jdk_52_method_5_code 56 = .ok (.ishl, 1) := by decide +kernel
theorem dgetC_57 : decode jdk_52_method_5_code 57 = .ok (.ior, 1) := by decide +kernel
theorem dgetC_58 : decode jdk_52_method_5_code 58 = .ok (.i2c, 1) := by decide +kernel
theorem dgetC_59 : decode jdk_52_method_5_code 59 = .ok (.ireturn, 1) := by decide +kernel
abbrev bgetC : wkB := (⟨"java/lang/StringUTF16", "getChar", "([BI)C"⟩, jdk_52_method_5_code, 2, (some .char))
theorem dtoBy_0 : decode jdk_52_method_14_code 0 = .ok (.iload_n 2, 1) := by decide +kernel
theorem dtoBy_1 : decode jdk_52_method_14_code 1 = .ok (.invokestatic 107, 3) := by decide +kernel
theorem dtoBy_4 : decode jdk_52_method_14_code 4 = .ok (.astore_n 3, 1) := by decide +kernel
theorem dtoBy_5 : decode jdk_52_method_14_code 5 = .ok (.iconst 0, 1) := by decide +kernel
theorem dtoBy_6 : decode jdk_52_method_14_code 6 = .ok (.istore 4, 2) := by decide +kernel
theorem dtoBy_8 : decode jdk_52_method_14_code 8 = .ok (.iload 4, 2) := by decide +kernel
theorem dtoBy_10 : decode jdk_52_method_14_code 10 = .ok (.iload_n 2, 1) := by decide +kernel
theorem dtoBy_11 : decode jdk_52_method_14_code 11 = .ok (.if_icmp .ge 21, 3) := by decide +kernel
theorem dtoBy_14 : decode jdk_52_method_14_code 14 = .ok (.aload_n 3, 1) := by decide +kernel
theorem dtoBy_15 : decode jdk_52_method_14_code 15 = .ok (.iload 4, 2) := by decide +kernel
theorem dtoBy_17 : decode jdk_52_method_14_code 17 = .ok (.aload_n 0, 1) := by decide +kernel
theorem dtoBy_18 : decode jdk_52_method_14_code 18 = .ok (.iload_n 1, 1) := by decide +kernel
theorem dtoBy_19 : decode jdk_52_method_14_code 19 = .ok (.caload, 1) := by decide +kernel
theorem dtoBy_20 : decode jdk_52_method_14_code 20 = .ok (.invokestatic 111, 3) := by decide +kernel
theorem dtoBy_23 : decode jdk_52_method_14_code 23 = .ok (.iinc 1 1, 3) := by decide +kernel
theorem dtoBy_26 : decode jdk_52_method_14_code 26 = .ok (.iinc 4 1, 3) := by decide +kernel
theorem dtoBy_29 : decode jdk_52_method_14_code 29 = .ok (.goto (-21), 3) := by decide +kernel
theorem dtoBy_32 : decode jdk_52_method_14_code 32 = .ok (.aload_n 3, 1) := by decide +kernel
theorem dtoBy_33 : decode jdk_52_method_14_code 33 = .ok (.areturn, 1) := by decide +kernel
abbrev btoBy : wkB := (⟨"java/lang/StringUTF16", "toBytes", "([CII)[B"⟩, jdk_52_method_14_code, 5, (some (.array .byte)))
theorem dcmp3_0 : decode jdk_52_method_16_code 0 = .ok (.iload_n 2, 1) := by decide +kernel
theorem dcmp3_1 : decode jdk_52_method_16_code 1 = .ok (.newarray .byte, 2) := by decide +kernel
theorem dcmp3_3 : decode jdk_52_method_16_code 3 = .ok (.astore_n 3, 1) := by decide +kernel
theorem dcmp3_4 : decode jdk_52_method_16_code 4 = .ok (.aload_n 0, 1) := by decide +kernel
theorem dcmp3_5 : decode jdk_52_method_16_code 5 = .ok (.iload_n 1, 1) := by decide +kernel
theorem dcmp3_6 : decode jdk_52_method_16_code 6 = .ok (.aload_n 3, 1) := by decide +kernel
theorem dcmp3_7 : decode jdk_52_method_16_code 7 = .ok (.iconst 0, 1) := by decide +kernel
theorem dcmp3_8 : decode jdk_52_method_16_code 8 = .ok (.iload_n 2, 1) := by decide +kernel
theorem dcmp3_9 : decode jdk_52_method_16_code 9 = .ok (.invokestatic 115, 3) := by decide +kernel
theorem dcmp3_12 : decode jdk_52_method_16_code 12 = .ok (.istore 4, 2) := by decide +kernel
theorem dcmp3_14 : decode jdk_52_method_16_code 14 = .ok (.iload 4, 2) := by decide +kernel
theorem dcmp3_16 : decode jdk_52_method_16_code 16 = .ok (.iload_n 2, 1) := by decide +kernel
theorem dcmp3_17 : decode jdk_52_method_16_code 17 = .ok (.if_icmp .eq 40, 3) := by decide +kernel
theorem dcmp3_20 : decode jdk_52_method_16_code 20 = .ok (.aload_n 0, 1) := by decide +kernel
theorem dcmp3_21 : decode jdk_52_method_16_code 21 = .ok (.iload_n 1, 1) := by decide +kernel
theorem dcmp3_22 : decode jdk_52_method_16_code 22 = .ok (.iload_n 2, 1) := by decide +kernel
theorem dcmp3_23 : decode jdk_52_method_16_code 23 = .ok (.invokestatic 119, 3) := by decide +kernel
theorem dcmp3_26 : decode jdk_52_method_16_code 26 = .ok (.astore 5, 2) := by decide +kernel
theorem dcmp3_28 : decode jdk_52_method_16_code 28 = .ok (.aload 5, 2) := by decide +kernel
theorem dcmp3_30 : decode jdk_52_method_16_code 30 = .ok (.iload 4, 2) := by decide +kernel
theorem dcmp3_32 : decode jdk_52_method_16_code 32 = .ok (.invokestatic 71, 3) := by decide +kernel
theorem dcmp3_35 : decode jdk_52_method_16_code 35 = .ok (.sipush 255, 3) := by decide +kernel
theorem dcmp3_38 : decode jdk_52_method_16_code 38 = .ok (.if_icmp .gt 16, 3) := by decide +kernel
theorem dcmp3_54 : decode jdk_52_method_16_code 54 = .ok (.aload 5, 2) := by decide +kernel
theorem dcmp3_56 : decode jdk_52_method_16_code 56 = .ok (.areturn, 1) := by decide +kernel
theorem dcmp3_57 : decode jdk_52_method_16_code 57 = .ok (.aload_n 3, 1) := by decide +kernel
theorem dcmp3_58 : decode jdk_52_method_16_code 58 = .ok (.areturn, 1) := by decide +kernel
abbrev bcmp3 : wkB := (⟨"java/lang/StringUTF16", "compress", "([CII)[B"⟩, jdk_52_method_16_code, 6, (some (.array .byte)))
theorem dinit4_0 : decode jdk_42_method_149_code 0 = .ok (.aload_n 0, 1) := by decide +kernel
theorem dinit4_1 : decode jdk_42_method_149_code 1 = .ok (.invokespecial 1, 3) := by decide +kernel
theorem dinit4_4 : decode jdk_42_method_149_code 4 = .ok (.iload_n 3, 1) := by decide +kernel
theorem dinit4_5 : decode jdk_42_method_149_code 5 = .ok (.ifCond .ne 22, 3) := by decide +kernel
theorem dinit4_8 : decode jdk_42_method_149_code 8 = .ok (.aload_n 0, 1) := by decide +kernel
theorem dinit4_9 : decode jdk_42_method_149_code 9 = .ok (.ldc 7, 2) := by decide +kernel
theorem dinit4_11 : decode jdk_42_method_149_code 11 = .ok (.getfield 9, 3) := by decide +kernel
theorem dinit4_14 : decode jdk_42_method_149_code 14 = .ok (.putfield 9, 3) := by decide +kernel
theorem dinit4_17 : decode jdk_42_method_149_code 17 = .ok (.aload_n 0, 1) := by decide +kernel
theorem dinit4_18 : decode jdk_42_method_149_code 18 = .ok (.ldc 7, 2) := by decide +kernel
theorem dinit4_20 : decode jdk_42_method_149_code 20 = .ok (.getfield 15, 3) := by decide +kernel
theorem dinit4_23 : decode jdk_42_method_149_code 23 = .ok (.putfield 15, 3) := by decide +kernel
theorem dinit4_26 : decode jdk_42_method_149_code 26 = .ok (.return_, 1) := by decide +kernel
theorem dinit4_27 : decode jdk_42_method_149_code 27 = .ok (.getstatic 38, 3) := by decide +kernel
theorem dinit4_30 : decode jdk_42_method_149_code 30 = .ok (.ifCond .eq 28, 3) := by decide +kernel
theorem dinit4_33 : decode jdk_42_method_149_code 33 = .ok (.aload_n 1, 1) := by decide +kernel
theorem dinit4_34 : decode jdk_42_method_149_code 34 = .ok (.iload_n 2, 1) := by decide +kernel
theorem dinit4_35 : decode jdk_42_method_149_code 35 = .ok (.iload_n 3, 1) := by decide +kernel
theorem dinit4_36 : decode jdk_42_method_149_code 36 = .ok (.invokestatic 177, 3) := by decide +kernel
theorem dinit4_39 : decode jdk_42_method_149_code 39 = .ok (.astore 5, 2) := by decide +kernel
theorem dinit4_41 : decode jdk_42_method_149_code 41 = .ok (.aload_n 0, 1) := by decide +kernel
theorem dinit4_42 : decode jdk_42_method_149_code 42 = .ok (.aload 5, 2) := by decide +kernel
theorem dinit4_44 : decode jdk_42_method_149_code 44 = .ok (.iload_n 3, 1) := by decide +kernel
theorem dinit4_45 : decode jdk_42_method_149_code 45 = .ok (.invokestatic 47, 3) := by decide +kernel
theorem dinit4_48 : decode jdk_42_method_149_code 48 = .ok (.putfield 15, 3) := by decide +kernel
theorem dinit4_51 : decode jdk_42_method_149_code 51 = .ok (.aload_n 0, 1) := by decide +kernel
theorem dinit4_52 : decode jdk_42_method_149_code 52 = .ok (.aload 5, 2) := by decide +kernel
theorem dinit4_54 : decode jdk_42_method_149_code 54 = .ok (.putfield 9, 3) := by decide +kernel
theorem dinit4_57 : decode jdk_42_method_149_code 57 = .ok (.return_, 1) := by decide +kernel
abbrev binit4 : wkB := (⟨"java/lang/String", "<init>", "([CIILjava/lang/Void;)V"⟩, jdk_42_method_149_code, 6, none)
theorem dinit1_0 : decode jdk_42_method_3_code 0 = .ok (.aload_n 0, 1) := by decide +kernel
theorem dinit1_1 : decode jdk_42_method_3_code 1 = .ok (.aload_n 1, 1) := by decide +kernel
theorem dinit1_2 : decode jdk_42_method_3_code 2 = .ok (.iconst 0, 1) := by decide +kernel
theorem dinit1_3 : decode jdk_42_method_3_code 3 = .ok (.aload_n 1, 1) := by decide +kernel
theorem dinit1_4 : decode jdk_42_method_3_code 4 = .ok (.arraylength, 1) := by decide +kernel
theorem dinit1_5 : decode jdk_42_method_3_code 5 = .ok (.aconst_null, 1) := by decide +kernel
theorem dinit1_6 : decode jdk_42_method_3_code 6 = .ok (.invokespecial 27, 3) := by decide +kernel
theorem dinit1_9 : decode jdk_42_method_3_code 9 = .ok (.return_, 1) := by decide +kernel
abbrev binit1 : wkB := (⟨"java/lang/String", "<init>", "([C)V"⟩, jdk_42_method_3_code, 2, none)
theorem dcoder_0 : decode jdk_42_method_152_code 0 = .ok (.getstatic 38, 3) := by decide +kernel
theorem dcoder_3 : decode jdk_42_method_152_code 3 = .ok (.ifCond .eq 10, 3) := by decide +kernel
theorem dcoder_6 : decode jdk_42_method_152_code 6 = .ok (.aload_n 0, 1) := by decide +kernel
theorem dcoder_7 : decode jdk_42_method_152_code 7 = .ok (.getfield 15, 3) := by decide +kernel
theorem dcoder_10 : decode jdk_42_method_152_code 10 = .ok (.goto 4, 3) := by decide +kernel
theorem dcoder_14 : decode jdk_42_method_152_code 14 = .ok (.ireturn, 1) := by decide +kernel
abbrev bcoder : wkB := (⟨"java/lang/String", "coder", "()B"⟩, jdk_42_method_152_code, 1, (some .byte))
theorem disLat_0 : decode jdk_42_method_154_code 0 = .ok (.getstatic 38, 3) := by decide +kernel
theorem disLat_3 : decode jdk_42_method_154_code 3 = .ok (.ifCond .eq 14, 3) := by decide +kernel
theorem disLat_6 : decode jdk_42_method_154_code 6 = .ok (.aload_n 0, 1) := by decide +kernel
theorem disLat_7 : decode jdk_42_method_154_code 7 = .ok (.getfield 15, 3) := by decide +kernel
theorem disLat_10 : decode jdk_42_method_154_code 10 = .ok (.ifCond .ne 7, 3) := by decide +kernel
theorem disLat_13 : decode jdk_42_method_154_code 13 = .ok (.iconst 1, 1) := by decide +kernel
theorem disLat_14 : decode jdk_42_method_154_code 14 = .ok (.goto 4, 3) := by decide +kernel
theorem disLat_17 : decode jdk_42_method_154_code 17 = .ok (.iconst 0, 1) := by decide +kernel
theorem disLat_18 : decode jdk_42_method_154_code 18 = .ok (.ireturn, 1) := by decide +kernel
abbrev bisLat : wkB := (⟨"java/lang/String", "isLatin1", "()Z"⟩, jdk_42_method_154_code, 1, (some .boolean))
theorem dlen_0 : decode jdk_42_method_54_code 0 = .ok (.aload_n 0, 1) := by decide +kernel
theorem dlen_1 : decode jdk_42_method_54_code 1 = .ok (.getfield 9, 3) := by decide +kernel
theorem dlen_4 : decode jdk_42_method_54_code 4 = .ok (.arraylength, 1) := by decide +kernel
theorem dlen_5 : decode jdk_42_method_54_code 5 = .ok (.aload_n 0, 1) := by decide +kernel
theorem dlen_6 : decode jdk_42_method_54_code 6 = .ok (.invokevirtual 335, 3) := by decide +kernel
theorem dlen_9 : decode jdk_42_method_54_code 9 = .ok (.ishr, 1) := by decide +kernel
theorem dlen_10 : decode jdk_42_method_54_code 10 = .ok (.ireturn, 1) := by decide +kernel
abbrev blen : wkB := (⟨"java/lang/String", "length", "()I"⟩, jdk_42_method_54_code, 1, (some .int))
theorem dpchk_0 : decode jdk_41_method_11_code 0 = .ok (.iload_n 0, 1) := by decide +kernel
theorem dpchk_1 : decode jdk_41_method_11_code 1 = .ok (.ifCond .lt 8, 3) := by decide +kernel
theorem dpchk_4 : decode jdk_41_method_11_code 4 = .ok (.iload_n 0, 1) := by decide +kernel
theorem dpchk_5 : decode jdk_41_method_11_code 5 = .ok (.iload_n 1, 1) := by decide +kernel
theorem dpchk_6 : decode jdk_41_method_11_code 6 = .ok (.if_icmp .lt 10, 3) := by decide +kernel
theorem dpchk_16 : decode jdk_41_method_11_code 16 = .ok (.iload_n 0, 1) := by decide +kernel
theorem dpchk_17 : decode jdk_41_method_11_code 17 = .ok (.ireturn, 1) := by decide +kernel
abbrev bpchk : wkB := (⟨"jdk/internal/util/Preconditions", "checkIndex", "(IILjava/util/function/BiFunction;)I"⟩, jdk_41_method_11_code, 3, (some .int))
theorem dschk_0 : decode jdk_42_method_155_code 0 = .ok (.iload_n 0, 1) := by decide +kernel
theorem dschk_1 : decode jdk_42_method_155_code 1 = .ok (.iload_n 1, 1) := by decide +kernel
theorem dschk_2 : decode jdk_42_method_155_code 2 = .ok (.getstatic 1053, 3) := by decide +kernel
theorem dschk_5 : decode jdk_42_method_155_code 5 = .ok (.invokestatic 1059, 3) := by decide +kernel
theorem dschk_8 : decode jdk_42_method_155_code 8 = .ok (.pop, 1) := by decide +kernel
theorem dschk_9 : decode jdk_42_method_155_code 9 = .ok (.return_, 1) := by decide +kernel
abbrev bschk : wkB := (⟨"java/lang/String", "checkIndex", "(II)V"⟩, jdk_42_method_155_code, 2, none)
theorem duchk_0 : decode jdk_52_method_91_code 0 = .ok (.iload_n 0, 1) := by decide +kernel
theorem duchk_1 : decode jdk_52_method_91_code 1 = .ok (.aload_n 1, 1) := by decide +kernel
theorem duchk_2 : decode jdk_52_method_91_code 2 = .ok (.invokestatic 48, 3) := by decide +kernel
theorem duchk_5 : decode jdk_52_method_91_code 5 = .ok (.invokestatic 414, 3) := by decide +kernel
theorem duchk_8 : decode jdk_52_method_91_code 8 = .ok (.return_, 1) := by decide +kernel
abbrev buchk : wkB := (⟨"java/lang/StringUTF16", "checkIndex", "(I[B)V"⟩, jdk_52_method_91_code, 2, none)
theorem dlch_0 : decode jdk_43_method_2_code 0 = .ok (.iload_n 1, 1) := by decide +kernel
theorem dlch_1 : decode jdk_43_method_2_code 1 = .ok (.aload_n 0, 1) := by decide +kernel
theorem dlch_2 : decode jdk_43_method_2_code 2 = .ok (.arraylength, 1) := by decide +kernel
theorem dlch_3 : decode jdk_43_method_2_code 3 = .ok (.invokestatic 9, 3) := by decide +kernel
theorem dlch_6 : decode jdk_43_method_2_code 6 = .ok (.aload_n 0, 1) := by decide +kernel
theorem dlch_7 : decode jdk_43_method_2_code 7 = .ok (.iload_n 1, 1) := by decide +kernel
theorem dlch_8 : decode jdk_43_method_2_code 8 = .ok (.baload, 1) := by decide +kernel
theorem dlch_9 : decode jdk_43_method_2_code 9 = .ok (.sipush 255, 3) := by decide +kernel
theorem dlch_12 : decode jdk_43_method_2_code 12 = .ok (.iand, 1) := by decide +kernel
theorem dlch_13 : decode jdk_43_method_2_code 13 = .ok (.i2c, 1) := by decide +kernel
theorem dlch_14 : decode jdk_43_method_2_code 14 = .ok (.ireturn, 1) := by decide +kernel
abbrev blch : wkB := (⟨"java/lang/StringLatin1", "charAt", "([BI)C"⟩, jdk_43_method_2_code, 2, (some .char))
theorem duch_0 : decode jdk_52_method_83_code 0 = .ok (.iload_n 1, 1) := by decide +kernel
theorem duch_1 : decode jdk_52_method_83_code 1 = .ok (.aload_n 0, 1) := by decide +kernel
theorem duch_2 : decode jdk_52_method_83_code 2 = .ok (.invokestatic 67, 3) := by decide +kernel
theorem duch_5 : decode jdk_52_method_83_code 5 = .ok (.aload_n 0, 1) := by decide +kernel
theorem duch_6 : decode jdk_52_method_83_code 6 = .ok (.iload_n 1, 1) := by decide +kernel
theorem duch_7 : decode jdk_52_method_83_code 7 = .ok (.invokestatic 71, 3) := by decide +kernel
theorem duch_10 : decode jdk_52_method_83_code 10 = .ok (.ireturn, 1) := by decide +kernel
abbrev buch : wkB := (⟨"java/lang/StringUTF16", "charAt", "([BI)C"⟩, jdk_52_method_83_code, 2, (some .char))
theorem dchAt_0 : decode jdk_42_method_56_code 0 = .ok (.aload_n 0, 1) := by decide +kernel
theorem dchAt_1 : decode jdk_42_method_56_code 1 = .ok (.invokevirtual 492, 3) := by decide +kernel
theorem dchAt_4 : decode jdk_42_method_56_code 4 = .ok (.ifCond .eq 12, 3) := by decide +kernel
theorem dchAt_7 : decode jdk_42_method_56_code 7 = .ok (.aload_n 0, 1) := by decide +kernel
theorem dchAt_8 : decode jdk_42_method_56_code 8 = .ok (.getfield 9, 3) := by decide +kernel
theorem dchAt_11 : decode jdk_42_method_56_code 11 = .ok (.iload_n 1, 1) := by decide +kernel
theorem dchAt_12 : decode jdk_42_method_56_code 12 = .ok (.invokestatic 495, 3) := by decide +kernel
theorem dchAt_15 : decode jdk_42_method_56_code 15 = .ok (.ireturn, 1) := by decide +kernel
theorem dchAt_16 : decode jdk_42_method_56_code 16 = .ok (.aload_n 0, 1) := by decide +kernel
theorem dchAt_17 : decode jdk_42_method_56_code 17 = .ok (.getfield 9, 3) := by decide +kernel
theorem dchAt_20 : decode jdk_42_method_56_code 20 = .ok (.iload_n 1, 1) := by decide +kernel
theorem dchAt_21 : decode jdk_42_method_56_code 21 = .ok (.invokestatic 498, 3) := by decide +kernel
theorem dchAt_24 : decode jdk_42_method_56_code 24 = .ok (.ireturn, 1) := by decide +kernel
abbrev bchAt : wkB := (⟨"java/lang/String", "charAt", "(I)C"⟩, jdk_42_method_56_code, 2, (some .char))
theorem disEmp_0 : decode jdk_42_method_55_code 0 = .ok (.aload_n 0, 1) := by decide +kernel
theorem disEmp_1 : decode jdk_42_method_55_code 1 = .ok (.getfield 9, 3) := by decide +kernel
theorem disEmp_4 : decode jdk_42_method_55_code 4 = .ok (.arraylength, 1) := by decide +kernel
theorem disEmp_5 : decode jdk_42_method_55_code 5 = .ok (.ifCond .ne 7, 3) := by decide +kernel
theorem disEmp_8 : decode jdk_42_method_55_code 8 = .ok (.iconst 1, 1) := by decide +kernel
theorem disEmp_9 : decode jdk_42_method_55_code 9 = .ok (.goto 4, 3) := by decide +kernel
theorem disEmp_12 : decode jdk_42_method_55_code 12 = .ok (.iconst 0, 1) := by decide +kernel
theorem disEmp_13 : decode jdk_42_method_55_code 13 = .ok (.ireturn, 1) := by decide +kernel
abbrev bisEmp : wkB := (⟨"java/lang/String", "isEmpty", "()Z"⟩, jdk_42_method_55_code, 1, (some .boolean))
theorem dok_0 : decode method_2_code 0 = .ok (.iload_n 0, 1) := by decide +kernel
theorem dok_1 : decode method_2_code 1 = .ok (.bipush 48, 2) := by decide +kernel
theorem dok_3 : decode method_2_code 3 = .ok (.if_icmp .lt 11, 3) := by decide +kernel
theorem dok_6 : decode method_2_code 6 = .ok (.iload_n 0, 1) := by decide +kernel
theorem dok_7 : decode method_2_code 7 = .ok (.bipush 57, 2) := by decide +kernel
theorem dok_9 : decode method_2_code 9 = .ok (.if_icmp .gt 5, 3) := by decide +kernel
theorem dok_12 : decode method_2_code 12 = .ok (.iconst 1, 1) := by decide +kernel
theorem dok_13 : decode method_2_code 13 = .ok (.ireturn, 1) := by decide +kernel
theorem dok_14 : decode method_2_code 14 = .ok (.iload_n 0, 1) := by decide +kernel
theorem dok_15 : decode method_2_code 15 = .ok (.bipush 65, 2) := by decide +kernel
theorem dok_17 : decode method_2_code 17 = .ok (.if_icmp .lt 11, 3) := by decide +kernel
theorem dok_20 : decode method_2_code 20 = .ok (.iload_n 0, 1) := by decide +kernel
theorem dok_21 : decode method_2_code 21 = .ok (.bipush 90, 2) := by decide +kernel
theorem dok_23 : decode method_2_code 23 = .ok (.if_icmp .gt 5, 3) := by decide +kernel
theorem dok_26 : decode method_2_code 26 = .ok (.iconst 1, 1) := by decide +kernel
theorem dok_27 : decode method_2_code 27 = .ok (.ireturn, 1) := by decide +kernel
theorem dok_28 : decode method_2_code 28 = .ok (.iload_n 0, 1) := by decide +kernel
theorem dok_29 : decode method_2_code 29 = .ok (.bipush 97, 2) := by decide +kernel
theorem dok_31 : decode method_2_code 31 = .ok (.if_icmp .lt 11, 3) := by decide +kernel
theorem dok_34 : decode method_2_code 34 = .ok (.iload_n 0, 1) := by decide +kernel
theorem dok_35 : decode method_2_code 35 = .ok (.bipush 122, 2) := by decide +kernel
theorem dok_37 : decode method_2_code 37 = .ok (.if_icmp .gt 5, 3) := by decide +kernel
theorem dok_40 : decode method_2_code 40 = .ok (.iconst 1, 1) := by decide +kernel
theorem dok_41 : decode method_2_code 41 = .ok (.ireturn, 1) := by decide +kernel
theorem dok_42 : decode method_2_code 42 = .ok (.iload_n 0, 1) := by decide +kernel
theorem dok_43 : decode method_2_code 43 = .ok (.bipush 46, 2) := by decide +kernel
theorem dok_45 : decode method_2_code 45 = .ok (.if_icmp .eq 15, 3) := by decide +kernel
theorem dok_48 : decode method_2_code 48 = .ok (.iload_n 0, 1) := by decide +kernel
theorem dok_49 : decode method_2_code 49 = .ok (.bipush 95, 2) := by decide +kernel
theorem dok_51 : decode method_2_code 51 = .ok (.if_icmp .eq 9, 3) := by decide +kernel
theorem dok_54 : decode method_2_code 54 = .ok (.iload_n 0, 1) := by decide +kernel
theorem dok_55 : decode method_2_code 55 = .ok (.bipush 45, 2) := by decide +kernel
theorem dok_57 : decode method_2_code 57 = .ok (.if_icmp .ne 7, 3) := by decide +kernel
theorem dok_60 : decode method_2_code 60 = .ok (.iconst 1, 1) := by decide +kernel
theorem dok_61 : decode method_2_code 61 = .ok (.goto 4, 3) := by decide +kernel
theorem dok_64 : decode method_2_code 64 = .ok (.iconst 0, 1) := by decide +kernel
theorem dok_65 : decode method_2_code 65 = .ok (.ireturn, 1) := by decide +kernel
abbrev bok : wkB := (⟨"com/example/chanticleer/chanticleer/engine/NamesIsNamePinLaw", "ok", "(C)Z"⟩, method_2_code, 1, (some .boolean))
theorem dnc_0 : decode prog_33_method_3_code 0 = .ok (.iload_n 0, 1) := by decide +kernel
theorem dnc_1 : decode prog_33_method_3_code 1 = .ok (.bipush 65, 2) := by decide +kernel
theorem dnc_3 : decode prog_33_method_3_code 3 = .ok (.if_icmp .lt 9, 3) := by decide +kernel
theorem dnc_6 : decode prog_33_method_3_code 6 = .ok (.iload_n 0, 1) := by decide +kernel
theorem dnc_7 : decode prog_33_method_3_code 7 = .ok (.bipush 90, 2) := by decide +kernel
theorem dnc_9 : decode prog_33_method_3_code 9 = .ok (.if_icmp .le 45, 3) := by decide +kernel
theorem dnc_12 : decode prog_33_method_3_code 12 = .ok (.iload_n 0, 1) := by decide +kernel
theorem dnc_13 : decode prog_33_method_3_code 13 = .ok (.bipush 97, 2) := by decide +kernel
theorem dnc_15 : decode prog_33_method_3_code 15 = .ok (.if_icmp .lt 9, 3) := by decide +kernel
theorem dnc_18 : decode prog_33_method_3_code 18 = .ok (.iload_n 0, 1) := by decide +kernel
theorem dnc_19 : decode prog_33_method_3_code 19 = .ok (.bipush 122, 2) := by decide +kernel
theorem dnc_21 : decode prog_33_method_3_code 21 = .ok (.if_icmp .le 33, 3) := by decide +kernel
theorem dnc_24 : decode prog_33_method_3_code 24 = .ok (.iload_n 0, 1) := by decide +kernel
theorem dnc_25 : decode prog_33_method_3_code 25 = .ok (.bipush 48, 2) := by decide +kernel
theorem dnc_27 : decode prog_33_method_3_code 27 = .ok (.if_icmp .lt 9, 3) := by decide +kernel
theorem dnc_30 : decode prog_33_method_3_code 30 = .ok (.iload_n 0, 1) := by decide +kernel
theorem dnc_31 : decode prog_33_method_3_code 31 = .ok (.bipush 57, 2) := by decide +kernel
theorem dnc_33 : decode prog_33_method_3_code 33 = .ok (.if_icmp .le 21, 3) := by decide +kernel
theorem dnc_36 : decode prog_33_method_3_code 36 = .ok (.iload_n 0, 1) := by decide +kernel
theorem dnc_37 : decode prog_33_method_3_code 37 = .ok (.bipush 46, 2) := by decide +kernel
theorem dnc_39 : decode prog_33_method_3_code 39 = .ok (.if_icmp .eq 15, 3) := by decide +kernel
theorem dnc_42 : decode prog_33_method_3_code 42 = .ok (.iload_n 0, 1) := by decide +kernel
theorem dnc_43 : decode prog_33_method_3_code 43 = .ok (.bipush 95, 2) := by decide +kernel
theorem dnc_45 : decode prog_33_method_3_code 45 = .ok (.if_icmp .eq 9, 3) := by decide +kernel
theorem dnc_48 : decode prog_33_method_3_code 48 = .ok (.iload_n 0, 1) := by decide +kernel
theorem dnc_49 : decode prog_33_method_3_code 49 = .ok (.bipush 45, 2) := by decide +kernel
theorem dnc_51 : decode prog_33_method_3_code 51 = .ok (.if_icmp .ne 7, 3) := by decide +kernel
theorem dnc_54 : decode prog_33_method_3_code 54 = .ok (.iconst 1, 1) := by decide +kernel
theorem dnc_55 : decode prog_33_method_3_code 55 = .ok (.goto 4, 3) := by decide +kernel
theorem dnc_58 : decode prog_33_method_3_code 58 = .ok (.iconst 0, 1) := by decide +kernel
theorem dnc_59 : decode prog_33_method_3_code 59 = .ok (.ireturn, 1) := by decide +kernel
abbrev bnc : wkB := (⟨"com/example/chanticleer/chanticleer/engine/Names", "isNameCharacter", "(C)Z"⟩, prog_33_method_3_code, 1, (some .boolean))
theorem disN_0 : decode prog_33_method_2_code 0 = .ok (.aload_n 0, 1) := by decide +kernel
theorem disN_1 : decode prog_33_method_2_code 1 = .ok (.invokevirtual 9, 3) := by decide +kernel
theorem disN_4 : decode prog_33_method_2_code 4 = .ok (.ifCond .ne 13, 3) := by decide +kernel
theorem disN_7 : decode prog_33_method_2_code 7 = .ok (.aload_n 0, 1) := by decide +kernel
theorem disN_8 : decode prog_33_method_2_code 8 = .ok (.invokevirtual 15, 3) := by decide +kernel
theorem disN_11 : decode prog_33_method_2_code 11 = .ok (.sipush 255, 3) := by decide +kernel
theorem disN_14 : decode prog_33_method_2_code 14 = .ok (.if_icmp .le 5, 3) := by decide +kernel
theorem disN_17 : decode prog_33_method_2_code 17 = .ok (.iconst 0, 1) := by decide +kernel
theorem disN_18 : decode prog_33_method_2_code 18 = .ok (.ireturn, 1) := by decide +kernel
theorem disN_19 : decode prog_33_method_2_code 19 = .ok (.iconst 0, 1) := by decide +kernel
theorem disN_20 : decode prog_33_method_2_code 20 = .ok (.istore_n 1, 1) := by decide +kernel
theorem disN_21 : decode prog_33_method_2_code 21 = .ok (.iload_n 1, 1) := by decide +kernel
theorem disN_22 : decode prog_33_method_2_code 22 = .ok (.aload_n 0, 1) := by decide +kernel
theorem disN_23 : decode prog_33_method_2_code 23 = .ok (.invokevirtual 15, 3) := by decide +kernel
theorem disN_26 : decode prog_33_method_2_code 26 = .ok (.if_icmp .ge 22, 3) := by decide +kernel
theorem disN_29 : decode prog_33_method_2_code 29 = .ok (.aload_n 0, 1) := by decide +kernel
theorem disN_30 : decode prog_33_method_2_code 30 = .ok (.iload_n 1, 1) := by decide +kernel
theorem disN_31 : decode prog_33_method_2_code 31 = .ok (.invokevirtual 19, 3) := by decide +kernel
theorem disN_34 : decode prog_33_method_2_code 34 = .ok (.invokestatic 23, 3) := by decide +kernel
theorem disN_37 : decode prog_33_method_2_code 37 = .ok (.ifCond .ne 5, 3) := by decide +kernel
theorem disN_40 : decode prog_33_method_2_code 40 = .ok (.iconst 0, 1) := by decide +kernel
theorem disN_41 : decode prog_33_method_2_code 41 = .ok (.ireturn, 1) := by decide +kernel
theorem disN_42 : decode prog_33_method_2_code 42 = .ok (.iinc 1 1, 3) := by decide +kernel
theorem disN_45 : decode prog_33_method_2_code 45 = .ok (.goto (-24), 3) := by decide +kernel
theorem disN_48 : decode prog_33_method_2_code 48 = .ok (.iconst 1, 1) := by decide +kernel
theorem disN_49 : decode prog_33_method_2_code 49 = .ok (.ireturn, 1) := by decide +kernel
abbrev bisN : wkB := (⟨"com/example/chanticleer/chanticleer/engine/Names", "isName", "(Ljava/lang/String;)Z"⟩, prog_33_method_2_code, 2, (some .boolean))
abbrev blaw : wkB := (⟨"com/example/chanticleer/chanticleer/engine/NamesIsNamePinLaw", "law", "(IIIII)Z"⟩, code, 12, (some .boolean))
theorem sAtoms {Z : State} {a0 : Array Value} (hw : ∀ d ∈ tables_1, d.before a0 Z = true) : ∀ a ∈ Bundle.stringAtoms, a.before a0 Z = true := by
  intro a ha
  simp only [Bundle.stringAtoms, List.mem_cons, List.not_mem_nil, or_false] at ha
  rcases ha with rfl | rfl | rfl | rfl | rfl | rfl | rfl
  · exact (w4 hw)
  · exact (w3 hw)
  · exact (w17 hw)
  · exact (w18 hw)
  · exact (w19 hw)
  · exact (w20 hw)
  · exact (w21 hw)
abbrev rcmp5 : Room := { frames := 0, cells := 0, slots := 0, locals := 0 }
/-- compress: the chars below 256 go over, up to the first that isn't -/
def Qcmp5 (Z : State) (d : Addr) (cs : List Int32) (v : Option Value) (h' : Heap) (os : List Addr) : Prop := ∃ (i : Nat) (ys : List Int32), i ≤ cs.length ∧ v = some (.int (Int32.ofNat i)) ∧ os = [] ∧ Ia Z h' d .byte ys ∧ ys.length = cs.length ∧ (∀ j, j < i → ∃ c, cs[j]? = some c ∧ ¬ 255 < c ∧ ys[j]? = some (lo8 c)) ∧ (i < cs.length → ∃ c, cs[i]? = some c ∧ 255 < c)
set_option maxRecDepth 65536 in
set_option maxHeartbeats 4000000 in
theorem L_cmp5 (l : Launch) (Z : State) (a0 : Array Value) (g : G Z a0) (hs : Heap) (b d : Addr) (cs : List Int32) (hbd : @Ne Nat b d) (hl31 : cs.length < 2 ^ 31) : ∀ (r i : Nat) (h : Heap) (ds : List Int32) (o6 : Slot), One o6 → i + r = cs.length → Ia Z h b .char cs → Ia Z h d .byte ds → ds.length = cs.length → (∀ j, j < i → ∃ c, cs[j]? = some c ∧ ¬ 255 < c ∧ ds[j]? = some (lo8 c)) →
    wkP l Z bcmp5 rcmp5 hs [d] (Qcmp5 Z d cs) [d] h 0 0 3 #[.val (.ref b), .val (.int (Int32.ofNat i)), .val (.ref d), .val (.int (Int32.ofNat i)), .val (.int (Int32.ofNat cs.length)), .val (.int (Int32.ofNat i)), o6] [] := by
  intro r
  induction r with
  | zero =>
    intro i h ds o6 ho6 hir F D hds hj
    have hi31 : i < 2 ^ 31 := by omega
    refine wkP.iload 5 dcmp5_3 rfl rfl ?_
    refine wkP.iload 7 dcmp5_5 rfl rfl ?_
    refine wkP.icmpT 44 dcmp5_7 (show ¬ (Int32.ofNat i) < (Int32.ofNat cs.length) from (by rw [ofNat_lt hi31 hl31]; omega)) (by decide) (by decide) ?_
    refine wkP.iload 46 dcmp5_44 rfl rfl ?_
    exact wkP.retI .int [] g.2.1 dcmp5_46 rfl (by simp) rfl (by decide) (by decide) (by simp) ⟨i, ds, by omega, by rw [show cs.length = i by omega], rfl, D, hds, hj, fun q => absurd q (by omega)⟩
  | succ r ih =>
    intro i h ds o6 ho6 hir F D hds hj
    have hi31 : i < 2 ^ 31 := by omega
    refine wkP.iload 5 dcmp5_3 rfl rfl ?_
    refine wkP.iload 7 dcmp5_5 rfl rfl ?_
    refine wkP.icmpF 10 dcmp5_7 (show ¬ (¬ (Int32.ofNat i) < (Int32.ofNat cs.length)) from (fun q => q ((ofNat_lt hi31 hl31).mpr (by omega)))) rfl ?_
    refine wkP.aloadN 11 dcmp5_10 rfl rfl rfl ?_
    refine wkP.iloadN 12 dcmp5_11 rfl rfl ?_
    obtain ⟨c, hc⟩ : ∃ c, cs[i]? = some c := ⟨_, List.getElem?_eq_getElem (show i < cs.length by omega)⟩
    refine wkP.caload 13 i c F dcmp5_12 (toI hi31) hc rfl ?_
    refine wkP.istore 15 #[.val (.ref b), .val (.int (Int32.ofNat i)), .val (.ref d), .val (.int (Int32.ofNat i)), .val (.int (Int32.ofNat cs.length)), .val (.int (Int32.ofNat i)), .val (.int c)] dcmp5_13 (XS.store1 rfl ho6 rfl) rfl ?_
    refine wkP.iload 17 dcmp5_15 rfl rfl ?_
    refine wkP.sipush 20 (255 : Int32) dcmp5_17 rfl rfl ?_
    by_cases hq : (255 : Int32) < c
    · refine wkP.icmpF 23 dcmp5_20 (show ¬ (¬ (255 : Int32) < c) from (fun q => q hq)) rfl ?_
      refine wkP.iload 25 dcmp5_23 rfl rfl ?_
      exact wkP.retI .int [] g.2.1 dcmp5_25 rfl (by simp) rfl (by decide) (by decide) (by simp) ⟨i, ds, by omega, rfl, rfl, D, hds, hj, fun _ => ⟨c, hc, hq⟩⟩
    · refine wkP.icmpT 26 dcmp5_20 (show ¬ (255 : Int32) < c from hq) (by decide) (by decide) ?_
      refine wkP.aloadN 27 dcmp5_26 rfl rfl rfl ?_
      refine wkP.iloadN 28 dcmp5_27 rfl rfl ?_
      refine wkP.iload 30 dcmp5_28 rfl rfl ?_
      refine wkP.i2b 31 (lo8 c) dcmp5_30 rfl rfl ?_
      refine wkP.stB 32 i (lo8 c) D dcmp5_31 (toI hi31) (by omega) (nar_lo8 c) (by simp) rfl ?_
      intro h1 K1 A1
      refine wkP.iinc 35 (Int32.ofNat (i + 1)) #[.val (.ref b), .val (.int (Int32.ofNat (i + 1))), .val (.ref d), .val (.int (Int32.ofNat i)), .val (.int (Int32.ofNat cs.length)), .val (.int (Int32.ofNat i)), .val (.int c)] dcmp5_32 rfl (inc1 i) rfl rfl ?_
      refine wkP.iinc 38 (Int32.ofNat (i + 1)) #[.val (.ref b), .val (.int (Int32.ofNat (i + 1))), .val (.ref d), .val (.int (Int32.ofNat (i + 1))), .val (.int (Int32.ofNat cs.length)), .val (.int (Int32.ofNat i)), .val (.int c)] dcmp5_35 rfl (inc1 i) rfl rfl ?_
      refine wkP.iinc 41 (Int32.ofNat (i + 1)) #[.val (.ref b), .val (.int (Int32.ofNat (i + 1))), .val (.ref d), .val (.int (Int32.ofNat (i + 1))), .val (.int (Int32.ofNat cs.length)), .val (.int (Int32.ofNat (i + 1))), .val (.int c)] dcmp5_38 rfl (inc1 i) rfl rfl ?_
      refine wkP.goto 3 dcmp5_41 (by decide) (by decide) ?_
      refine ih (i + 1) h1 (ds.set i (lo8 c)) _ (One.val rfl) (by omega) (F.keep K1 (nn1 hbd)) A1 (by simpa using hds) ?_
      intro j hj1
      by_cases hji : j = i
      · subst hji; exact ⟨c, hc, hq, by simp [show j < ds.length by omega]⟩
      · obtain ⟨c', q1, q2, q3⟩ := hj j (by omega); exact ⟨c', q1, q2, by rw [List.getElem?_set_ne (Ne.symm hji)]; exact q3⟩
set_option maxRecDepth 65536 in
set_option maxHeartbeats 4000000 in
theorem M_cmp5 (l : Launch) (Z : State) (a0 : Array Value) (g : G Z a0) (h : Heap) (b d : Addr) (cs ds : List Int32) (F : Ia Z h b .char cs) (D : Ia Z h d .byte ds) (hl : ds.length = cs.length) : wkM l Z bcmp5 rcmp5 #[.ref b, .int 0, .ref d, .int 0, .int (Int32.ofNat cs.length)] h [d] (Qcmp5 Z d cs) := by
  refine wkM.of #[.val (.ref b), .val (.int (0 : Int32)), .val (.ref d), .val (.int (0 : Int32)), .val (.int (Int32.ofNat cs.length)), .unset, .unset] (plainFor_of_name (by first | (simp [plainName, overriddenIn]; done) | decide +kernel)) (fun m => by first | rfl | (simp [entryFrame, mkF, argsToLocals, Value.category]; done)) ?_
  refine wkP.iconst 1 (0 : Int32) dcmp5_0 rfl rfl ?_
  refine wkP.istore 3 #[.val (.ref b), .val (.int (0 : Int32)), .val (.ref d), .val (.int (0 : Int32)), .val (.int (Int32.ofNat cs.length)), .val (.int (0 : Int32)), .unset] dcmp5_1 rfl rfl ?_
  exact L_cmp5 l Z a0 g h b d cs (F.ne D (by decide)) F.len cs.length 0 h ds .unset One.u (by omega) F D hl (fun j hj => absurd hj (by omega))
abbrev rcodL : Room := { frames := 0, cells := 0, slots := 0, locals := 0 }
set_option maxRecDepth 65536 in
set_option maxHeartbeats 4000000 in
theorem M_codL (l : Launch) (Z : State) (a0 : Array Value) (g : G Z a0) (h : Heap) (b : Addr) (ys : List Int32) (n : Nat) (F : Ia Z h b .byte ys) (hn : ys.length = n) : wkM l Z bcodL rcodL #[.ref b, .int (Int32.ofNat n)] h [] (fun v h' os => v = some (.int 0) ∧ os = [] ∧ h = h') := by
  refine wkM.of #[.val (.ref b), .val (.int (Int32.ofNat n))] (plainFor_of_name (by first | (simp [plainName, overriddenIn]; done) | decide +kernel)) (fun m => by first | rfl | (simp [entryFrame, mkF, argsToLocals, Value.category]; done)) ?_
  refine wkP.iloadN 1 dcodL_0 rfl rfl ?_
  refine wkP.aloadN 2 dcodL_1 rfl rfl rfl ?_
  refine wkP.alen 3 (Int32.ofNat n) F dcodL_2 (by rw [hn]) rfl ?_
  refine wkP.isub 4 (0 : Int32) dcodL_3 (by simp) rfl ?_
  refine wkP.bipush 6 (31 : Int32) dcodL_4 rfl rfl ?_
  refine wkP.iushr 7 (0 : Int32) dcodL_6 (by decide) rfl ?_
  refine wkP.i2b 8 (0 : Int32) dcodL_7 (by decide) rfl ?_
  exact wkP.retI .byte [] g.2.1 dcodL_8 rfl (by simp) rfl (by decide) (by decide) (by simp) ⟨rfl, rfl, rfl⟩
theorem sub2 {n : Nat} (h : 2 * n < 2 ^ 31) : Int32.ofNat n - Int32.ofNat (2 * n) = -(Int32.ofNat n) := by
  have h1 := c_isub (Int32.ofNat n) (Int32.ofNat (2 * n))
  have h2 := c_ineg (Int32.ofNat n)
  have h3 := rng32 (Int32.ofNat n - Int32.ofNat (2 * n))
  have h4 := rng32 (-(Int32.ofNat n))
  rw [toI h, toI (show n < 2 ^ 31 by omega)] at h1
  rw [toI (show n < 2 ^ 31 by omega)] at h2
  rw [← Int32.toInt_inj]; omega
theorem neg31 {n : Nat} (h : 2 * n < 2 ^ 31) (h0 : n ≠ 0) : ((-(Int32.ofNat n)).toUInt32 >>> ((31 : Int32) &&& 31).toUInt32).toInt32 = 1 := by
  have h1 : (((-(Int32.ofNat n)).toUInt32 >>> ((31 : Int32) &&& 31).toUInt32).toInt32).toInt = ((-(Int32.ofNat n)).toInt % 4294967296) / 2147483648 := c_iushr (-(Int32.ofNat n)) 31 31 (by decide) (by decide)
  have h2 := c_ineg (Int32.ofNat n)
  have h4 := rng32 (-(Int32.ofNat n))
  rw [toI (show n < 2 ^ 31 by omega)] at h2
  rw [← Int32.toInt_inj, h1, show (1 : Int32).toInt = 1 from rfl]; omega
set_option maxRecDepth 65536 in
set_option maxHeartbeats 4000000 in
theorem M_codU (l : Launch) (Z : State) (a0 : Array Value) (g : G Z a0) (h : Heap) (b : Addr) (ys : List Int32) (n : Nat) (F : Ia Z h b .byte ys) (hn : ys.length = 2 * n) (h0 : n ≠ 0) : wkM l Z bcodL rcodL #[.ref b, .int (Int32.ofNat n)] h [] (fun v h' os => v = some (.int 1) ∧ os = [] ∧ h = h') := by
  refine wkM.of #[.val (.ref b), .val (.int (Int32.ofNat n))] (plainFor_of_name (by first | (simp [plainName, overriddenIn]; done) | decide +kernel)) (fun m => by first | rfl | (simp [entryFrame, mkF, argsToLocals, Value.category]; done)) ?_
  refine wkP.iloadN 1 dcodL_0 rfl rfl ?_
  refine wkP.aloadN 2 dcodL_1 rfl rfl rfl ?_
  refine wkP.alen 3 (Int32.ofNat (2 * n)) F dcodL_2 (by rw [hn]) rfl ?_
  refine wkP.isub 4 (-(Int32.ofNat n)) dcodL_3 (sub2 (by have := F.len; omega)) rfl ?_
  refine wkP.bipush 6 (31 : Int32) dcodL_4 rfl rfl ?_
  refine wkP.iushr 7 (1 : Int32) dcodL_6 (neg31 (by have := F.len; omega) h0) rfl ?_
  refine wkP.i2b 8 (1 : Int32) dcodL_7 (by decide) rfl ?_
  exact wkP.retI .byte [] g.2.1 dcodL_8 rfl (by simp) rfl (by decide) (by decide) (by simp) ⟨rfl, rfl, rfl⟩
abbrev rnbl : Room := { frames := 0, cells := 0, slots := 0, locals := 0 }
set_option maxRecDepth 65536 in
set_option maxHeartbeats 4000000 in
theorem M_nbl (l : Launch) (Z : State) (a0 : Array Value) (g : G Z a0) (h : Heap) (n : Nat) (hn : n < 1000000) : wkM l Z bnbl rnbl #[.int (Int32.ofNat n)] h [] (fun v h' os => v = some (.int (Int32.ofNat (2 * n))) ∧ os = [] ∧ h = h') := by
  refine wkM.of #[.val (.int (Int32.ofNat n))] (plainFor_of_name (by first | (simp [plainName, overriddenIn]; done) | decide +kernel)) (fun m => by first | rfl | (simp [entryFrame, mkF, argsToLocals, Value.category]; done)) ?_
  refine wkP.iloadN 1 dnbl_0 rfl rfl ?_
  refine wkP.ifT 12 dnbl_1 (show ¬ (Int32.ofNat n) < (0 : Int32) from (nn_of (by omega))) (by decide) (by decide) ?_
  refine wkP.iloadN 13 dnbl_12 rfl rfl ?_
  refine wkP.ldcI 15 (w92 g.1) dnbl_13 rfl ?_
  refine wkP.icmpT 55 dnbl_15 (show (Int32.ofNat n) < (1073741823 : Int32) from (by rw [Int32.lt_iff_toInt_lt, toI (show n < 2 ^ 31 by omega)]; simp only [Int32.reduceToInt]; omega)) (by decide) (by decide) ?_
  refine wkP.iloadN 56 dnbl_55 rfl rfl ?_
  refine wkP.iconst 57 (1 : Int32) dnbl_56 rfl rfl ?_
  refine wkP.ishl 58 (Int32.ofNat (2 * n)) dnbl_57 (shl1 (by omega)) rfl ?_
  exact wkP.retI .int [] g.2.1 dnbl_58 rfl (by simp) rfl (by decide) (by decide) (by simp) ⟨rfl, rfl, rfl⟩
abbrev rnbf : Room := { frames := 1, cells := 1, slots := 8, locals := 12 }
set_option maxRecDepth 65536 in
set_option maxHeartbeats 4000000 in
theorem M_nbf (l : Launch) (Z : State) (a0 : Array Value) (g : G Z a0) (h : Heap) (n : Nat) (hn : n ≤ 4) : wkM l Z bnbf rnbf #[.int (Int32.ofNat n)] h [] (fun v h' os => ∃ d, v = some (.ref d) ∧ h.size ≤ d ∧ os = [d] ∧ Ia Z h' d .byte (List.replicate (2 * n) 0)) := by
  refine wkM.of #[.val (.int (Int32.ofNat n))] (plainFor_of_name (by first | (simp [plainName, overriddenIn]; done) | decide +kernel)) (fun m => by first | rfl | (simp [entryFrame, mkF, argsToLocals, Value.category]; done)) ?_
  refine wkP.iloadN 1 dnbf_0 rfl rfl ?_
  refine wkP.callS 4 (M_nbl l Z a0 g _ n (by omega)) [(.int (Int32.ofNat n))] [] 0 g.2.1 (w89 g.1) (w90 g.1) (w36 g.1) (w91 g.1) (by decide) dnbf_1 (lenOf pd0 rfl) rfl rfl rfl (by simp) (Nat.le_of_eq rfl) (by decide) (by decide) (by decide) (by decide) rfl ?_
  rintro v2 _ o2 ⟨rfl, rfl, rfl⟩ K2
  refine wkP.newP 6 .byte (2 * n) 8 (w17 g.1) rfl rfl rfl dnbf_4 (toI (by omega)) (by omega) (by decide) (by decide) (by decide) rfl ?_
  intro h3 a3 g3 l3 K3 A3
  have z3 := K3.1
  exact wkP.retA (.array .byte) [a3] g.2.1 dnbf_6 rfl rfl (by decide) (by decide) (by simp) ⟨a3, rfl, by omega, rfl, A3⟩
abbrev rulen : Room := { frames := 0, cells := 0, slots := 0, locals := 0 }
set_option maxRecDepth 65536 in
set_option maxHeartbeats 4000000 in
theorem M_ulen (l : Launch) (Z : State) (a0 : Array Value) (g : G Z a0) (h : Heap) (d : Addr) (ys : List Int32) (n : Nat) (F : Ia Z h d .byte ys) (hn : ys.length = 2 * n) : wkM l Z bulen rulen #[.ref d] h [] (fun v h' os => v = some (.int (Int32.ofNat n)) ∧ os = [] ∧ h = h') := by
  refine wkM.of #[.val (.ref d)] (plainFor_of_name (by first | (simp [plainName, overriddenIn]; done) | decide +kernel)) (fun m => by first | rfl | (simp [entryFrame, mkF, argsToLocals, Value.category]; done)) ?_
  refine wkP.aloadN 1 dulen_0 rfl rfl rfl ?_
  refine wkP.alen 2 (Int32.ofNat (2 * n)) F dulen_1 (by rw [hn]) rfl ?_
  refine wkP.iconst 3 (1 : Int32) dulen_2 rfl rfl ?_
  refine wkP.ishr 4 (Int32.ofNat n) dulen_3 (shr1 (by have := F.len; omega)) rfl ?_
  exact wkP.retI .int [] g.2.1 dulen_4 rfl (by simp) rfl (by decide) (by decide) (by simp) ⟨rfl, rfl, rfl⟩
abbrev rputC : Room := { frames := 0, cells := 0, slots := 0, locals := 0 }
set_option maxRecDepth 65536 in
set_option maxHeartbeats 4000000 in
theorem M_putC (l : Launch) (Z : State) (a0 : Array Value) (g : G Z a0) (h : Heap) (d : Addr) (ys : List Int32) (i : Nat) (c : Int32) (F : Ia Z h d .byte ys) (hi : 2 * i + 1 < ys.length) : wkM l Z bputC rputC #[.ref d, .int (Int32.ofNat i), .int c] h [d] (fun v h' os => v = none ∧ os = [] ∧ Ia Z h' d .byte ((ys.set (2 * i) (lo8 c)).set (2 * i + 1) (hi8 c))) := by
  refine wkM.of #[.val (.ref d), .val (.int (Int32.ofNat i)), .val (.int c)] (plainFor_of_name (by first | (simp [plainName, overriddenIn]; done) | decide +kernel)) (fun m => by first | rfl | (simp [entryFrame, mkF, argsToLocals, Value.category]; done)) ?_
  refine wkP.getS 3 (w96 g.1) g.2.2.2.2.1 Via.refl dputC_0 rfl ?_
  refine wkP.ifT 28 dputC_3 (show ¬ (1 : Int32) = (0 : Int32) from (by decide)) (by decide) (by decide) ?_
  refine wkP.iloadN 29 dputC_28 rfl rfl ?_
  refine wkP.iconst 30 (1 : Int32) dputC_29 rfl rfl ?_
  refine wkP.ishl 31 (Int32.ofNat (2 * i)) dputC_30 (shl1 (by have := F.len; omega)) rfl ?_
  refine wkP.istoreN 32 #[.val (.ref d), .val (.int (Int32.ofNat (2 * i))), .val (.int c)] dputC_31 rfl rfl ?_
  refine wkP.aloadN 33 dputC_32 rfl rfl rfl ?_
  refine wkP.iloadN 34 dputC_33 rfl rfl ?_
  refine wkP.iinc 37 (Int32.ofNat (2 * i + 1)) #[.val (.ref d), .val (.int (Int32.ofNat (2 * i + 1))), .val (.int c)] dputC_34 rfl (inc1 _) rfl rfl ?_
  refine wkP.iloadN 38 dputC_37 rfl rfl ?_
  refine wkP.getS 41 (w97 g.1) g.2.2.2.2.2.1 Via.refl dputC_38 rfl ?_
  refine wkP.ishr 42 c dputC_41 (shr0 c) rfl ?_
  refine wkP.i2b 43 (lo8 c) dputC_42 rfl rfl ?_
  refine wkP.stB 44 (2 * i) (lo8 c) F dputC_43 (toI (by have := F.len; omega)) (by omega) (nar_lo8 c) (by simp) rfl ?_
  intro h1 K1 A1
  refine wkP.aloadN 45 dputC_44 rfl rfl rfl ?_
  refine wkP.iloadN 46 dputC_45 rfl rfl ?_
  refine wkP.iloadN 47 dputC_46 rfl rfl ?_
  refine wkP.getS 50 (w98 g.1) g.2.2.2.2.2.2 Via.refl dputC_47 rfl ?_
  refine wkP.ishr 51 (c >>> ((8 : Int32) &&& 31)) dputC_50 rfl rfl ?_
  refine wkP.i2b 52 (hi8 c) dputC_51 rfl rfl ?_
  refine wkP.stB 53 (2 * i + 1) (hi8 c) A1 dputC_52 (toI (by have := F.len; omega)) (by simp; omega) (nar_hi8 c) (by simp) rfl ?_
  intro h2 K2 A2
  exact wkP.ret0 [] g.2.1 dputC_53 rfl (by decide) (by decide) (by simp) ⟨rfl, rfl, A2⟩
abbrev rgetC : Room := { frames := 0, cells := 0, slots := 0, locals := 0 }
set_option maxRecDepth 65536 in
set_option maxHeartbeats 4000000 in
theorem M_getC (l : Launch) (Z : State) (a0 : Array Value) (g : G Z a0) (h : Heap) (d : Addr) (cs : List Int32) (i : Nat) (c : Int32) (F : Ia Z h d .byte (u16 cs)) (hc : cs[i]? = some c) (hch : ¬ c < 0 ∧ ¬ 65535 < c) : wkM l Z bgetC rgetC #[.ref d, .int (Int32.ofNat i)] h [] (fun v h' os => v = some (.int c) ∧ os = [] ∧ h = h') := by
  refine wkM.of #[.val (.ref d), .val (.int (Int32.ofNat i))] (plainFor_of_name (by first | (simp [plainName, overriddenIn]; done) | decide +kernel)) (fun m => by first | rfl | (simp [entryFrame, mkF, argsToLocals, Value.category]; done)) ?_
  have hi : i < cs.length := (List.getElem?_eq_some_iff.mp hc).1
  have hL := F.len
  rw [u16_len] at hL
  obtain ⟨q1, q2⟩ := u16_at cs i c hc
  refine wkP.getS 3 (w96 g.1) g.2.2.2.2.1 Via.refl dgetC_0 rfl ?_
  refine wkP.ifT 28 dgetC_3 (show ¬ (1 : Int32) = (0 : Int32) from (by decide)) (by decide) (by decide) ?_
  refine wkP.iloadN 29 dgetC_28 rfl rfl ?_
  refine wkP.iconst 30 (1 : Int32) dgetC_29 rfl rfl ?_
  refine wkP.ishl 31 (Int32.ofNat (2 * i)) dgetC_30 (shl1 (by omega)) rfl ?_
  refine wkP.istoreN 32 #[.val (.ref d), .val (.int (Int32.ofNat (2 * i)))] dgetC_31 rfl rfl ?_
  refine wkP.aloadN 33 dgetC_32 rfl rfl rfl ?_
  refine wkP.iloadN 34 dgetC_33 rfl rfl ?_
  refine wkP.iinc 37 (Int32.ofNat (2 * i + 1)) #[.val (.ref d), .val (.int (Int32.ofNat (2 * i + 1)))] dgetC_34 rfl (inc1 _) rfl rfl ?_
  refine wkP.baload 38 (2 * i) (lo8 c) F dgetC_37 (toI (by omega)) q1 rfl ?_
  refine wkP.sipush 41 (255 : Int32) dgetC_38 rfl rfl ?_
  refine wkP.iand 42 ((lo8 c) &&& (255 : Int32)) dgetC_41 rfl rfl ?_
  refine wkP.getS 45 (w97 g.1) g.2.2.2.2.2.1 Via.refl dgetC_42 rfl ?_
  refine wkP.ishl 46 ((lo8 c) &&& (255 : Int32)) dgetC_45 (shl0 _) rfl ?_
  refine wkP.aloadN 47 dgetC_46 rfl rfl rfl ?_
  refine wkP.iloadN 48 dgetC_47 rfl rfl ?_
  refine wkP.baload 49 (2 * i + 1) (hi8 c) F dgetC_48 (toI (by omega)) q2 rfl ?_
  refine wkP.sipush 52 (255 : Int32) dgetC_49 rfl rfl ?_
  refine wkP.iand 53 ((hi8 c) &&& (255 : Int32)) dgetC_52 rfl rfl ?_
  refine wkP.getS 56 (w98 g.1) g.2.2.2.2.2.2 Via.refl dgetC_53 rfl ?_
  refine wkP.ishl 57 (((hi8 c) &&& (255 : Int32)) <<< ((8 : Int32) &&& 31)) dgetC_56 rfl rfl ?_
  refine wkP.ior 58 (((lo8 c) &&& (255 : Int32)) ||| (((hi8 c) &&& (255 : Int32)) <<< ((8 : Int32) &&& 31))) dgetC_57 rfl rfl ?_
  refine wkP.i2c 59 c dgetC_58 (u16_get hch) rfl ?_
  exact wkP.retI .char [] g.2.1 dgetC_59 rfl (by simp) (by show Value.int (nar .char c) = _; rw [nar_c hch]) (by decide) (by decide) (by simp) ⟨rfl, rfl, rfl⟩
abbrev rtoBy : Room := { frames := 2, cells := 1, slots := 8, locals := 24 }
set_option maxRecDepth 65536 in
set_option maxHeartbeats 4000000 in
theorem L_toBy (l : Launch) (Z : State) (a0 : Array Value) (g : G Z a0) (hs : Heap) (b d : Addr) (cs : List Int32) (hbd : @Ne Nat b d) (hl31 : cs.length < 2 ^ 31) (gd : hs.size ≤ d) : ∀ (r i : Nat) (h : Heap) (ds : List Int32), i + r = cs.length → Ia Z h b .char cs → Ia Z h d .byte ds → ds.length = 2 * cs.length → (∀ j, j < i → ∃ c, cs[j]? = some c ∧ ds[2 * j]? = some (lo8 c) ∧ ds[2 * j + 1]? = some (hi8 c)) →
    wkP l Z btoBy rtoBy hs [] (fun v h' os => ∃ d, v = some (.ref d) ∧ hs.size ≤ d ∧ os = [d] ∧ Ia Z h' d .byte (u16 cs)) [d] h 1 8 8 #[.val (.ref b), .val (.int (Int32.ofNat i)), .val (.int (Int32.ofNat cs.length)), .val (.ref d), .val (.int (Int32.ofNat i))] [] := by
  intro r
  induction r with
  | zero =>
    intro i h ds hir F D hds hj
    have hi31 : i < 2 ^ 31 := by omega
    refine wkP.iload 10 dtoBy_8 rfl rfl ?_
    refine wkP.iloadN 11 dtoBy_10 rfl rfl ?_
    refine wkP.icmpT 32 dtoBy_11 (show ¬ (Int32.ofNat i) < (Int32.ofNat cs.length) from (by rw [ofNat_lt hi31 hl31]; omega)) (by decide) (by decide) ?_
    refine wkP.aloadN 33 dtoBy_32 rfl rfl rfl ?_
    have e : ds = u16 cs := u16_ext hds (fun j hj1 => hj j (by omega))
    subst e
    exact wkP.retA (.array .byte) [d] g.2.1 dtoBy_33 rfl rfl (by decide) (by decide) (by simp) ⟨d, rfl, gd, rfl, D⟩
  | succ r ih =>
    intro i h ds hir F D hds hj
    have hi31 : i < 2 ^ 31 := by omega
    refine wkP.iload 10 dtoBy_8 rfl rfl ?_
    refine wkP.iloadN 11 dtoBy_10 rfl rfl ?_
    refine wkP.icmpF 14 dtoBy_11 (show ¬ (¬ (Int32.ofNat i) < (Int32.ofNat cs.length)) from (fun q => q ((ofNat_lt hi31 hl31).mpr (by omega)))) rfl ?_
    refine wkP.aloadN 15 dtoBy_14 rfl rfl rfl ?_
    refine wkP.iload 17 dtoBy_15 rfl rfl ?_
    refine wkP.aloadN 18 dtoBy_17 rfl rfl rfl ?_
    refine wkP.iloadN 19 dtoBy_18 rfl rfl ?_
    obtain ⟨c, hc⟩ : ∃ c, cs[i]? = some c := ⟨_, List.getElem?_eq_getElem (show i < cs.length by omega)⟩
    refine wkP.caload 20 i c F dtoBy_19 (toI hi31) hc rfl ?_
    refine wkP.callS 23 (M_putC l Z a0 g _ d ds i c D (by omega)) [(.ref d), (.int (Int32.ofNat i)), (.int c)] [] 0 g.2.1 (w93 g.1) (w94 g.1) (w36 g.1) (w95 g.1) (by decide) dtoBy_20 (lenOf pd2 rfl) rfl rfl rfl (by simp) (Nat.le_of_eq rfl) (by decide) (by decide) (by decide) (by decide) rfl ?_
    rintro v6 h6 o6 ⟨rfl, rfl, A6⟩ K6
    have z6 := K6.1
    refine wkP.iinc 26 (Int32.ofNat (i + 1)) #[.val (.ref b), .val (.int (Int32.ofNat (i + 1))), .val (.int (Int32.ofNat cs.length)), .val (.ref d), .val (.int (Int32.ofNat i))] dtoBy_23 rfl (inc1 i) rfl rfl ?_
    refine wkP.iinc 29 (Int32.ofNat (i + 1)) #[.val (.ref b), .val (.int (Int32.ofNat (i + 1))), .val (.int (Int32.ofNat cs.length)), .val (.ref d), .val (.int (Int32.ofNat (i + 1)))] dtoBy_26 rfl (inc1 i) rfl rfl ?_
    refine wkP.goto 8 dtoBy_29 (by decide) (by decide) ?_
    refine ih (i + 1) _ _ (by omega) (F.keep K6 (nn1 hbd)) A6 (by simpa using hds) ?_
    intro j hj1
    by_cases hji : j = i
    · subst hji; refine ⟨c, hc, ?_, ?_⟩
      · rw [List.getElem?_set_ne (by omega), List.getElem?_set_self (by omega)]
      · rw [List.getElem?_set_self (by simp; omega)]
    · obtain ⟨c', q1, q2, q3⟩ := hj j (by omega)
      exact ⟨c', q1, by rw [List.getElem?_set_ne (by omega), List.getElem?_set_ne (by omega)]; exact q2, by rw [List.getElem?_set_ne (by omega), List.getElem?_set_ne (by omega)]; exact q3⟩
set_option maxRecDepth 65536 in
set_option maxHeartbeats 4000000 in
theorem M_toBy (l : Launch) (Z : State) (a0 : Array Value) (g : G Z a0) (h : Heap) (b : Addr) (cs : List Int32) (F : Ia Z h b .char cs) (hcap : cs.length ≤ 4) : wkM l Z btoBy rtoBy #[.ref b, .int 0, .int (Int32.ofNat cs.length)] h [] (fun v h' os => ∃ d, v = some (.ref d) ∧ h.size ≤ d ∧ os = [d] ∧ Ia Z h' d .byte (u16 cs)) := by
  refine wkM.of #[.val (.ref b), .val (.int (0 : Int32)), .val (.int (Int32.ofNat cs.length)), .unset, .unset] (plainFor_of_name (by first | (simp [plainName, overriddenIn]; done) | decide +kernel)) (fun m => by first | rfl | (simp [entryFrame, mkF, argsToLocals, Value.category]; done)) ?_
  refine wkP.iloadN 1 dtoBy_0 rfl rfl ?_
  refine wkP.callS 4 (M_nbf l Z a0 g _ cs.length (by omega)) [(.int (Int32.ofNat cs.length))] [] 0 g.2.1 (w86 g.1) (w87 g.1) (w36 g.1) (w88 g.1) (by decide) dtoBy_1 (lenOf pd1 rfl) rfl rfl rfl (by simp) (Nat.le_of_eq rfl) (by decide) (by decide) (by decide) (by decide) rfl ?_
  rintro v4 h4 o4 ⟨d, rfl, gd, rfl, A4⟩ K4
  have z4 := K4.1
  refine wkP.astoreN 5 #[.val (.ref b), .val (.int (0 : Int32)), .val (.int (Int32.ofNat cs.length)), .val (.ref d), .unset] dtoBy_4 rfl rfl rfl ?_
  refine wkP.iconst 6 (0 : Int32) dtoBy_5 rfl rfl ?_
  refine wkP.istore 8 #[.val (.ref b), .val (.int (0 : Int32)), .val (.int (Int32.ofNat cs.length)), .val (.ref d), .val (.int (0 : Int32))] dtoBy_6 rfl rfl ?_
  have F_5 := (F.keep K4 nn0)
  exact L_toBy l Z a0 g h b d cs (by have := F.lt; omega) F.len gd cs.length 0 _ _ (by omega) F_5 A4 (by simp) (fun j hj => absurd hj (by omega))
abbrev rcmp3 : Room := { frames := 3, cells := 2, slots := 12, locals := 40 }
set_option maxRecDepth 65536 in
set_option maxHeartbeats 4000000 in
theorem M_cmp3 (l : Launch) (Z : State) (a0 : Array Value) (g : G Z a0) (h : Heap) (b : Addr) (cs : List Int32) (F : Ia Z h b .char cs) (hch : chs cs) (hcap : cs.length ≤ 4) : wkM l Z bcmp3 rcmp3 #[.ref b, .int 0, .int (Int32.ofNat cs.length)] h [] (fun v h' os => ∃ d, v = some (.ref d) ∧ h.size ≤ d ∧ os = [d] ∧ ((lat cs ∧ Ia Z h' d .byte (cs.map lo8)) ∨ (¬ lat cs ∧ Ia Z h' d .byte (u16 cs)))) := by
  refine wkM.of #[.val (.ref b), .val (.int (0 : Int32)), .val (.int (Int32.ofNat cs.length)), .unset, .unset, .unset] (plainFor_of_name (by first | (simp [plainName, overriddenIn]; done) | decide +kernel)) (fun m => by first | rfl | (simp [entryFrame, mkF, argsToLocals, Value.category]; done)) ?_
  refine wkP.iloadN 1 dcmp3_0 rfl rfl ?_
  refine wkP.newP 3 .byte cs.length 4 (w17 g.1) rfl rfl rfl dcmp3_1 (toI F.len) (by omega) (by decide) (by decide) (by decide) rfl ?_
  intro h7 a7 g7 l7 K7 A7
  have z7 := K7.1
  refine wkP.astoreN 4 #[.val (.ref b), .val (.int (0 : Int32)), .val (.int (Int32.ofNat cs.length)), .val (.ref a7), .unset, .unset] dcmp3_3 rfl rfl rfl ?_
  refine wkP.aloadN 5 dcmp3_4 rfl rfl rfl ?_
  refine wkP.iloadN 6 dcmp3_5 rfl rfl ?_
  refine wkP.aloadN 7 dcmp3_6 rfl rfl rfl ?_
  refine wkP.iconst 8 (0 : Int32) dcmp3_7 rfl rfl ?_
  refine wkP.iloadN 9 dcmp3_8 rfl rfl ?_
  have F_8 := (F.keep K7 nn0)
  refine wkP.callS 12 (M_cmp5 l Z a0 g _ b a7 cs _ F_8 A7 (by simp)) [(.ref b), (.int (0 : Int32)), (.ref a7), (.int (0 : Int32)), (.int (Int32.ofNat cs.length))] [] 0 g.2.1 (w38 g.1) (w39 g.1) (w36 g.1) (w40 g.1) (by decide) dcmp3_9 (lenOf pd3 rfl) rfl rfl rfl (by simp) (Nat.le_of_eq rfl) (by decide) (by decide) (by decide) (by decide) rfl ?_
  rintro v9 h9 o9 ⟨i, ys, hi, rfl, rfl, A9, hy, hj, hno⟩ K9
  have z9 := K9.1
  have hlb := F.lt
  refine wkP.istore 14 #[.val (.ref b), .val (.int (0 : Int32)), .val (.int (Int32.ofNat cs.length)), .val (.ref a7), .val (.int (Int32.ofNat i)), .unset] dcmp3_12 rfl rfl ?_
  refine wkP.iload 16 dcmp3_14 rfl rfl ?_
  refine wkP.iloadN 17 dcmp3_16 rfl rfl ?_
  by_cases hil : i = cs.length
  · refine wkP.icmpT 57 dcmp3_17 (show (Int32.ofNat i) = (Int32.ofNat cs.length) from (by rw [hil])) (by decide) (by decide) ?_
    have hlat : lat cs := by
      intro c hc
      obtain ⟨j, hjl, rfl⟩ := List.getElem_of_mem hc
      obtain ⟨c', c1, c2, -⟩ := hj j (by omega)
      rw [List.getElem?_eq_getElem hjl] at c1; cases c1; exact ⟨(hch _ hc).1, c2⟩
    have hys : ys = cs.map lo8 := by
      refine List.ext_getElem? fun j => ?_
      rcases Nat.lt_or_ge j cs.length with q | q
      · obtain ⟨c, c1, -, c2⟩ := hj j (by omega); rw [c2]; simp [c1]
      · rw [List.getElem?_eq_none (by omega), List.getElem?_eq_none (by simpa using q)]
    subst hys
    refine wkP.aloadN 58 dcmp3_57 rfl rfl rfl ?_
    exact wkP.retA (.array .byte) [a7] g.2.1 dcmp3_58 rfl rfl (by decide) (by decide) (by simp) ⟨a7, rfl, by omega, rfl, Or.inl ⟨hlat, A9⟩⟩
  · refine wkP.icmpF 20 dcmp3_17 (show ¬ ((Int32.ofNat i) = (Int32.ofNat cs.length)) from (fun q => hil ((ofNat_inj (show i < 2 ^ 31 by have := F.len; omega) F.len).mp q))) rfl ?_
    obtain ⟨c, hc, hc2⟩ := hno (by omega)
    have hlat : ¬ lat cs := fun q => (q c (List.mem_of_getElem? hc)).2 hc2
    refine wkP.aloadN 21 dcmp3_20 rfl rfl rfl ?_
    refine wkP.iloadN 22 dcmp3_21 rfl rfl ?_
    refine wkP.iloadN 23 dcmp3_22 rfl rfl ?_
    have F_10 := (F_8.keep K9 (nnS (by omega) nn0))
    refine wkP.callS 26 (M_toBy l Z a0 g _ b cs F_10 hcap) [(.ref b), (.int (0 : Int32)), (.int (Int32.ofNat cs.length))] [] 0 g.2.1 (w83 g.1) (w84 g.1) (w36 g.1) (w85 g.1) (by decide) dcmp3_23 (lenOf pd4 rfl) rfl rfl rfl (by simp) (Nat.le_of_eq rfl) (by decide) (by decide) (by decide) (by decide) rfl ?_
    rintro v11 h11 o11 ⟨u, rfl, gu, rfl, A11⟩ K11
    have z11 := K11.1
    refine wkP.astore 28 #[.val (.ref b), .val (.int (0 : Int32)), .val (.int (Int32.ofNat cs.length)), .val (.ref a7), .val (.int (Int32.ofNat i)), .val (.ref u)] dcmp3_26 rfl rfl rfl ?_
    refine wkP.aload 30 dcmp3_28 rfl rfl rfl ?_
    refine wkP.iload 32 dcmp3_30 rfl rfl ?_
    refine wkP.callS 35 (M_getC l Z a0 g _ u cs i c A11 hc (hch c (List.mem_of_getElem? hc))) [(.ref u), (.int (Int32.ofNat i))] [] 0 g.2.1 (w99 g.1) (w100 g.1) (w36 g.1) (w101 g.1) (by decide) dcmp3_32 (lenOf pd5 rfl) rfl rfl rfl (by simp) (Nat.le_of_eq rfl) (by decide) (by decide) (by decide) (by decide) rfl ?_
    rintro v12 _ o12 ⟨rfl, rfl, rfl⟩ K12
    refine wkP.sipush 38 (255 : Int32) dcmp3_35 rfl rfl ?_
    refine wkP.icmpT 54 dcmp3_38 (show (255 : Int32) < c from hc2) (by decide) (by decide) ?_
    refine wkP.aload 56 dcmp3_54 rfl rfl rfl ?_
    exact wkP.retA (.array .byte) [u] g.2.1 dcmp3_56 rfl rfl (by decide) (by decide) (by simp) ⟨u, rfl, by omega, rfl, Or.inr ⟨hlat, A11⟩⟩
abbrev rinit4 : Room := { frames := 4, cells := 4, slots := 12, locals := 57 }
set_option maxRecDepth 65536 in
set_option maxHeartbeats 4000000 in
theorem M_init4 (l : Launch) (Z : State) (a0 : Array Value) (g : G Z a0) (h : Heap) (a b : Addr) (cs : List Int32) (F : Ia Z h b .char cs) (hch : chs cs) (hcap : cs.length ≤ 4) (vc vv : Value) (E : Exa Z h a "java/lang/String") (FC : Fld Z h a "java/lang/String" "coder" "B" vc) (FV : Fld Z h a "java/lang/String" "value" "[B" vv) : wkM l Z binit4 rinit4 #[.ref a, .ref b, .int 0, .int (Int32.ofNat cs.length), .null] h [a] (fun v h' os => ∃ d, v = none ∧ os = [] ∧ St Z h' a d cs) := by
  refine wkM.of #[.val (.ref a), .val (.ref b), .val (.int (0 : Int32)), .val (.int (Int32.ofNat cs.length)), .val .null, .unset] (plainFor_of_name (by first | (simp [plainName, overriddenIn]; done) | decide +kernel)) (fun m => by first | rfl | (simp [entryFrame, mkF, argsToLocals, Value.category]; done)) ?_
  obtain ⟨zc, hzc, hzn⟩ := g.2.2.1
  have la := exaLt E
  refine wkP.aloadN 1 dinit4_0 rfl rfl rfl ?_
  refine wkP.initO 4 (w13 g.1) (w14 g.1) (w15 g.1) dinit4_1 rfl (by decide) 0 (Nat.le_of_eq rfl) (by decide) rfl ?_
  refine wkP.iloadN 5 dinit4_4 rfl rfl ?_
  by_cases hne : cs.length = 0
  · refine wkP.ifF 8 dinit4_5 (show ¬ (¬ (Int32.ofNat cs.length) = (0 : Int32)) from (fun q => q (by rw [hne]; rfl))) rfl ?_
    obtain rfl : cs = [] := List.length_eq_zero_iff.mp hne
    refine wkP.aloadN 9 dinit4_8 rfl rfl rfl ?_
    refine wkP.ldc 11 ([] : List Int32) 0 (w16 g.1) (sAtoms g.1) g.2.1 (by decide) (by decide) rfl (by decide) dinit4_9 (by decide) (by decide) (by decide) (by decide) rfl ?_
    intro h13 a13 b13 K13 E13 C13 V13 A13 ne13
    have z13 := K13.1
    have la13 := exaLt E13
    have lb13 := A13.lt
    refine wkP.getF 14 (w22 g.1) V13 Via.refl dinit4_11 rfl ?_
    have FV_14 := (FV.keep K13 nn0)
    have E_15 := (E.keep K13)
    have FC_16 := (FC.keep K13 nn0)
    refine wkP.putF 17 (w22 g.1) FV_14 E_15 (Or.inr ⟨(w18 g.1), rfl, rfl⟩) (w3 g.1) (ty := (.array .byte)) (by decide) rfl rfl dinit4_14 (by simp) rfl ?_
    intro h17 K17 W17
    have z17 := K17.1
    have F17 := Fld.same W17 FV_14
    have E17 := Exa.wr W17 E_15
    have F18 := Fld.other W17 FC_16 (Or.inr (slot_ne (t := .byte) (t' := (.array .byte)) (Or.inr (w19 g.1)) (Or.inr (w18 g.1)) (by decide) (by decide) (by decide)))
    refine wkP.aloadN 18 dinit4_17 rfl rfl rfl ?_
    refine wkP.ldc 20 ([] : List Int32) 0 (w16 g.1) (sAtoms g.1) g.2.1 (by decide) (by decide) rfl (by decide) dinit4_18 (by decide) (by decide) (by decide) (by decide) rfl ?_
    intro h19 a19 b19 K19 E19 C19 V19 A19 ne19
    have z19 := K19.1
    have la19 := exaLt E19
    have lb19 := A19.lt
    refine wkP.getF 23 (w23 g.1) C19 Via.refl dinit4_20 rfl ?_
    have F18_20 := (F18.keep K19 nn0)
    have E17_21 := (E17.keep K19)
    have F17_22 := (F17.keep K19 nn0)
    refine wkP.putF 26 (w23 g.1) F18_20 E17_21 (Or.inr ⟨(w19 g.1), rfl, rfl⟩) (w3 g.1) (ty := .byte) (by decide) rfl rfl dinit4_23 (by simp) rfl ?_
    intro h23 K23 W23
    have z23 := K23.1
    have F23 := Fld.same W23 F18_20
    have E23 := Exa.wr W23 E17_21
    have F24 := Fld.other W23 F17_22 (Or.inr (slot_ne (t := (.array .byte)) (t' := .byte) (Or.inr (w18 g.1)) (Or.inr (w19 g.1)) (by decide) (by decide) (by decide)))
    have A13_25 := (((A13.keep K17 (nnS (Ne.symm (ne13 a (by simp)).2) nn0)).keep K19 nn0).keep K23 (nnS (Ne.symm (ne13 a (by simp)).2) nn0))
    exact wkP.ret0 [] g.2.1 dinit4_26 rfl (by decide) (by decide) (by simp) ⟨b13, rfl, rfl, Or.inl ⟨E23, F23, F24, A13_25, fun x hx => by simp at hx⟩⟩
  · refine wkP.ifT 27 dinit4_5 (show ¬ (Int32.ofNat cs.length) = (0 : Int32) from (fun q => hne ((ofNat_inj F.len (by decide)).mp q))) (by decide) (by decide) ?_
    refine wkP.getS 30 (w33 g.1) hzc Via.refl dinit4_27 rfl ?_
    refine wkP.ifF 33 dinit4_30 (show ¬ (zc = (0 : Int32)) from hzn) rfl ?_
    refine wkP.aloadN 34 dinit4_33 rfl rfl rfl ?_
    refine wkP.iloadN 35 dinit4_34 rfl rfl ?_
    refine wkP.iloadN 36 dinit4_35 rfl rfl ?_
    refine wkP.callS 39 (M_cmp3 l Z a0 g _ b cs F hch hcap) [(.ref b), (.int (0 : Int32)), (.int (Int32.ofNat cs.length))] [] 0 g.2.1 (w34 g.1) (w35 g.1) (w36 g.1) (w37 g.1) (by decide) dinit4_36 (lenOf pd4 rfl) rfl rfl rfl (by simp) (Nat.le_of_eq rfl) (by decide) (by decide) (by decide) (by decide) rfl ?_
    rintro v26 h26 o26 ⟨d, rfl, gd, rfl, A26⟩ K26
    have z26 := K26.1
    refine wkP.astore 41 #[.val (.ref a), .val (.ref b), .val (.int (0 : Int32)), .val (.int (Int32.ofNat cs.length)), .val .null, .val (.ref d)] dinit4_39 rfl rfl rfl ?_
    refine wkP.aloadN 42 dinit4_41 rfl rfl rfl ?_
    refine wkP.aload 44 dinit4_42 rfl rfl rfl ?_
    refine wkP.iloadN 45 dinit4_44 rfl rfl ?_
    rcases A26 with ⟨hlat, A26⟩ | ⟨hlat, A26⟩
    · have ld := A26.lt
      have hl2 : (cs.map lo8).length = cs.length := by simp
      refine wkP.callS 48 (M_codL l Z a0 g _ d (cs.map lo8) cs.length A26 hl2) [(.ref d), (.int (Int32.ofNat cs.length))] [(.ref a)] 1 g.2.1 (w41 g.1) (w42 g.1) (w36 g.1) (w43 g.1) (by decide) dinit4_45 (lenOf pd6 rfl) rfl rfl rfl (by simp) (Nat.le_of_eq rfl) (by decide) (by decide) (by decide) (by decide) rfl ?_
      rintro v27 _ o27 ⟨rfl, rfl, rfl⟩ K27
      have FC_28 := (FC.keep K26 nn0)
      have E_29 := (E.keep K26)
      have FV_30 := (FV.keep K26 nn0)
      refine wkP.putF 51 (w23 g.1) FC_28 E_29 (Or.inr ⟨(w19 g.1), rfl, rfl⟩) (w3 g.1) (ty := .byte) (by decide) rfl rfl dinit4_48 (by simp) rfl ?_
      intro h31 K31 W31
      have z31 := K31.1
      have F31 := Fld.same W31 FC_28
      have E31 := Exa.wr W31 E_29
      have F32 := Fld.other W31 FV_30 (Or.inr (slot_ne (t := (.array .byte)) (t' := .byte) (Or.inr (w18 g.1)) (Or.inr (w19 g.1)) (by decide) (by decide) (by decide)))
      refine wkP.aloadN 52 dinit4_51 rfl rfl rfl ?_
      refine wkP.aload 54 dinit4_52 rfl rfl rfl ?_
      refine wkP.putF 57 (w22 g.1) F32 E31 (Or.inr ⟨(w18 g.1), rfl, rfl⟩) (w3 g.1) (ty := (.array .byte)) (by decide) rfl rfl dinit4_54 (by simp) rfl ?_
      intro h33 K33 W33
      have z33 := K33.1
      have F33 := Fld.same W33 F32
      have E33 := Exa.wr W33 E31
      have F34 := Fld.other W33 F31 (Or.inr (slot_ne (t := .byte) (t' := (.array .byte)) (Or.inr (w19 g.1)) (Or.inr (w18 g.1)) (by decide) (by decide) (by decide)))
      have A26_35 := ((A26.keep K31 (nnS (by omega) nn0)).keep K33 (nnS (by omega) nn0))
      exact wkP.ret0 [] g.2.1 dinit4_57 rfl (by decide) (by decide) (by simp) ⟨d, rfl, rfl, Or.inl ⟨E33, F34, F33, A26_35, hlat⟩⟩
    · have ld := A26.lt
      refine wkP.callS 48 (M_codU l Z a0 g _ d (u16 cs) cs.length A26 (u16_len cs) hne) [(.ref d), (.int (Int32.ofNat cs.length))] [(.ref a)] 1 g.2.1 (w41 g.1) (w42 g.1) (w36 g.1) (w43 g.1) (by decide) dinit4_45 (lenOf pd6 rfl) rfl rfl rfl (by simp) (Nat.le_of_eq rfl) (by decide) (by decide) (by decide) (by decide) rfl ?_
      rintro v36 _ o36 ⟨rfl, rfl, rfl⟩ K36
      have FC_37 := (FC.keep K26 nn0)
      have E_38 := (E.keep K26)
      have FV_39 := (FV.keep K26 nn0)
      refine wkP.putF 51 (w23 g.1) FC_37 E_38 (Or.inr ⟨(w19 g.1), rfl, rfl⟩) (w3 g.1) (ty := .byte) (by decide) rfl rfl dinit4_48 (by simp) rfl ?_
      intro h40 K40 W40
      have z40 := K40.1
      have F40 := Fld.same W40 FC_37
      have E40 := Exa.wr W40 E_38
      have F41 := Fld.other W40 FV_39 (Or.inr (slot_ne (t := (.array .byte)) (t' := .byte) (Or.inr (w18 g.1)) (Or.inr (w19 g.1)) (by decide) (by decide) (by decide)))
      refine wkP.aloadN 52 dinit4_51 rfl rfl rfl ?_
      refine wkP.aload 54 dinit4_52 rfl rfl rfl ?_
      refine wkP.putF 57 (w22 g.1) F41 E40 (Or.inr ⟨(w18 g.1), rfl, rfl⟩) (w3 g.1) (ty := (.array .byte)) (by decide) rfl rfl dinit4_54 (by simp) rfl ?_
      intro h42 K42 W42
      have z42 := K42.1
      have F42 := Fld.same W42 F41
      have E42 := Exa.wr W42 E40
      have F43 := Fld.other W42 F40 (Or.inr (slot_ne (t := .byte) (t' := (.array .byte)) (Or.inr (w19 g.1)) (Or.inr (w18 g.1)) (by decide) (by decide) (by decide)))
      have A26_44 := ((A26.keep K40 (nnS (by omega) nn0)).keep K42 (nnS (by omega) nn0))
      exact wkP.ret0 [] g.2.1 dinit4_57 rfl (by decide) (by decide) (by simp) ⟨d, rfl, rfl, Or.inr ⟨E42, F43, F42, A26_44, hch, hlat⟩⟩
abbrev rinit1 : Room := { frames := 5, cells := 4, slots := 12, locals := 74 }
set_option maxRecDepth 65536 in
set_option maxHeartbeats 4000000 in
theorem M_init1 (l : Launch) (Z : State) (a0 : Array Value) (g : G Z a0) (h : Heap) (a b : Addr) (cs : List Int32) (F : Ia Z h b .char cs) (hch : chs cs) (hcap : cs.length ≤ 4) (vc vv : Value) (E : Exa Z h a "java/lang/String") (FC : Fld Z h a "java/lang/String" "coder" "B" vc) (FV : Fld Z h a "java/lang/String" "value" "[B" vv) : wkM l Z binit1 rinit1 #[.ref a, .ref b] h [a] (fun v h' os => ∃ d, v = none ∧ os = [] ∧ St Z h' a d cs) := by
  refine wkM.of #[.val (.ref a), .val (.ref b)] (plainFor_of_name (by first | (simp [plainName, overriddenIn]; done) | decide +kernel)) (fun m => by first | rfl | (simp [entryFrame, mkF, argsToLocals, Value.category]; done)) ?_
  refine wkP.aloadN 1 dinit1_0 rfl rfl rfl ?_
  refine wkP.aloadN 2 dinit1_1 rfl rfl rfl ?_
  refine wkP.iconst 3 (0 : Int32) dinit1_2 rfl rfl ?_
  refine wkP.aloadN 4 dinit1_3 rfl rfl rfl ?_
  refine wkP.alen 5 (Int32.ofNat cs.length) F dinit1_4 rfl rfl ?_
  refine wkP.anull 6 dinit1_5 rfl ?_
  refine wkP.callI 9 (M_init4 l Z a0 g _ a b cs F hch hcap vc vv E FC FV) [(.ref b), (.int (0 : Int32)), (.int (Int32.ofNat cs.length)), .null] [] 0 g.2.1 (w9 g.1) (w10 g.1) (w4 g.1) (w12 g.1) rfl rfl (by decide) dinit1_6 (lenOf pd7 rfl) rfl rfl rfl (by simp) (Nat.le_of_eq rfl) (by decide) (by decide) (by decide) (by decide) rfl ?_
  rintro v45 h45 o45 ⟨d, rfl, rfl, H⟩ K45
  have z45 := K45.1
  exact wkP.ret0 [] g.2.1 dinit1_9 rfl (by decide) (by decide) (by simp) ⟨d, rfl, rfl, H⟩
abbrev rcoder : Room := { frames := 0, cells := 0, slots := 0, locals := 0 }
set_option maxRecDepth 65536 in
set_option maxHeartbeats 4000000 in
theorem M_coderL (l : Launch) (Z : State) (a0 : Array Value) (g : G Z a0) (h : Heap) (a b : Addr) (cs : List Int32) (F : SL Z h a b cs) : wkM l Z bcoder rcoder #[.ref a] h [] (fun v h' os => v = some (.int 0) ∧ os = [] ∧ h = h') := by
  refine wkM.of #[.val (.ref a)] (plainFor_of_name (by first | (simp [plainName, overriddenIn]; done) | decide +kernel)) (fun m => by first | rfl | (simp [entryFrame, mkF, argsToLocals, Value.category]; done)) ?_
  obtain ⟨zc, hzc, hzn⟩ := g.2.2.1
  refine wkP.getS 3 (w33 g.1) hzc Via.refl dcoder_0 rfl ?_
  refine wkP.ifF 6 dcoder_3 (show ¬ (zc = (0 : Int32)) from hzn) rfl ?_
  refine wkP.aloadN 7 dcoder_6 rfl rfl rfl ?_
  refine wkP.getF 10 (w23 g.1) F.2.1 Via.refl dcoder_7 rfl ?_
  refine wkP.goto 14 dcoder_10 (by decide) (by decide) ?_
  exact wkP.retI .byte [] g.2.1 dcoder_14 rfl (by simp) rfl (by decide) (by decide) (by simp) ⟨rfl, rfl, rfl⟩
set_option maxRecDepth 65536 in
set_option maxHeartbeats 4000000 in
theorem M_coderU (l : Launch) (Z : State) (a0 : Array Value) (g : G Z a0) (h : Heap) (a b : Addr) (cs : List Int32) (F : SU Z h a b cs) : wkM l Z bcoder rcoder #[.ref a] h [] (fun v h' os => v = some (.int 1) ∧ os = [] ∧ h = h') := by
  refine wkM.of #[.val (.ref a)] (plainFor_of_name (by first | (simp [plainName, overriddenIn]; done) | decide +kernel)) (fun m => by first | rfl | (simp [entryFrame, mkF, argsToLocals, Value.category]; done)) ?_
  obtain ⟨zc, hzc, hzn⟩ := g.2.2.1
  refine wkP.getS 3 (w33 g.1) hzc Via.refl dcoder_0 rfl ?_
  refine wkP.ifF 6 dcoder_3 (show ¬ (zc = (0 : Int32)) from hzn) rfl ?_
  refine wkP.aloadN 7 dcoder_6 rfl rfl rfl ?_
  refine wkP.getF 10 (w23 g.1) F.2.1 Via.refl dcoder_7 rfl ?_
  refine wkP.goto 14 dcoder_10 (by decide) (by decide) ?_
  exact wkP.retI .byte [] g.2.1 dcoder_14 rfl (by simp) rfl (by decide) (by decide) (by simp) ⟨rfl, rfl, rfl⟩
abbrev risLat : Room := { frames := 0, cells := 0, slots := 0, locals := 0 }
set_option maxRecDepth 65536 in
set_option maxHeartbeats 4000000 in
theorem M_isLatL (l : Launch) (Z : State) (a0 : Array Value) (g : G Z a0) (h : Heap) (a b : Addr) (cs : List Int32) (F : SL Z h a b cs) : wkM l Z bisLat risLat #[.ref a] h [] (fun v h' os => v = some (.int 1) ∧ os = [] ∧ h = h') := by
  refine wkM.of #[.val (.ref a)] (plainFor_of_name (by first | (simp [plainName, overriddenIn]; done) | decide +kernel)) (fun m => by first | rfl | (simp [entryFrame, mkF, argsToLocals, Value.category]; done)) ?_
  obtain ⟨zc, hzc, hzn⟩ := g.2.2.1
  refine wkP.getS 3 (w33 g.1) hzc Via.refl disLat_0 rfl ?_
  refine wkP.ifF 6 disLat_3 (show ¬ (zc = (0 : Int32)) from hzn) rfl ?_
  refine wkP.aloadN 7 disLat_6 rfl rfl rfl ?_
  refine wkP.getF 10 (w23 g.1) F.2.1 Via.refl disLat_7 rfl ?_
  refine wkP.ifF 13 disLat_10 (show ¬ (¬ (0 : Int32) = (0 : Int32)) from (by decide)) rfl ?_
  refine wkP.iconst 14 (1 : Int32) disLat_13 rfl rfl ?_
  refine wkP.goto 18 disLat_14 (by decide) (by decide) ?_
  exact wkP.retI .boolean [] g.2.1 disLat_18 rfl (by simp) rfl (by decide) (by decide) (by simp) ⟨rfl, rfl, rfl⟩
set_option maxRecDepth 65536 in
set_option maxHeartbeats 4000000 in
theorem M_isLatU (l : Launch) (Z : State) (a0 : Array Value) (g : G Z a0) (h : Heap) (a b : Addr) (cs : List Int32) (F : SU Z h a b cs) : wkM l Z bisLat risLat #[.ref a] h [] (fun v h' os => v = some (.int 0) ∧ os = [] ∧ h = h') := by
  refine wkM.of #[.val (.ref a)] (plainFor_of_name (by first | (simp [plainName, overriddenIn]; done) | decide +kernel)) (fun m => by first | rfl | (simp [entryFrame, mkF, argsToLocals, Value.category]; done)) ?_
  obtain ⟨zc, hzc, hzn⟩ := g.2.2.1
  refine wkP.getS 3 (w33 g.1) hzc Via.refl disLat_0 rfl ?_
  refine wkP.ifF 6 disLat_3 (show ¬ (zc = (0 : Int32)) from hzn) rfl ?_
  refine wkP.aloadN 7 disLat_6 rfl rfl rfl ?_
  refine wkP.getF 10 (w23 g.1) F.2.1 Via.refl disLat_7 rfl ?_
  refine wkP.ifT 17 disLat_10 (show ¬ (1 : Int32) = (0 : Int32) from (by decide)) (by decide) (by decide) ?_
  refine wkP.iconst 18 (0 : Int32) disLat_17 rfl rfl ?_
  exact wkP.retI .boolean [] g.2.1 disLat_18 rfl (by simp) rfl (by decide) (by decide) (by simp) ⟨rfl, rfl, rfl⟩
abbrev rlen : Room := { frames := 1, cells := 0, slots := 0, locals := 13 }
set_option maxRecDepth 65536 in
set_option maxHeartbeats 4000000 in
theorem M_len (l : Launch) (Z : State) (a0 : Array Value) (g : G Z a0) (h : Heap) (a b : Addr) (cs : List Int32) (F : St Z h a b cs)  : wkM l Z blen rlen #[.ref a] h [] (fun v h' os => v = some (.int (Int32.ofNat cs.length)) ∧ os = [] ∧ h = h') := by
  refine wkM.of #[.val (.ref a)] (plainFor_of_name (by first | (simp [plainName, overriddenIn]; done) | decide +kernel)) (fun m => by first | rfl | (simp [entryFrame, mkF, argsToLocals, Value.category]; done)) ?_
  rcases F with F | F
  · refine wkP.aloadN 1 dlen_0 rfl rfl rfl ?_
    refine wkP.getF 4 (w22 g.1) F.2.2.1 Via.refl dlen_1 rfl ?_
    have hL := F.2.2.2.1.len
    refine wkP.alen 5 (Int32.ofNat cs.length) F.2.2.2.1 dlen_4 (by simp) rfl ?_
    refine wkP.aloadN 6 dlen_5 rfl rfl rfl ?_
    refine wkP.callV 9 (M_coderL l Z a0 g _ a b cs F) [] [(.int (Int32.ofNat cs.length))] 1 g.2.1 F.1 (wkNFs (w56 g.1)) (w53 g.1) (w54 g.1) (w56 g.1) (w55 g.1) (w4 g.1) (w57 g.1) (by decide) dlen_6 (lenOf pd8 rfl) rfl rfl rfl (by simp) (Nat.le_of_eq rfl) (by decide) (by decide) (by decide) (by decide) rfl ?_
    rintro v46 _ o46 ⟨rfl, rfl, rfl⟩ K46
    refine wkP.ishr 10 (Int32.ofNat cs.length) dlen_9 (shr0 _) rfl ?_
    exact wkP.retI .int [] g.2.1 dlen_10 rfl (by simp) rfl (by decide) (by decide) (by simp) ⟨rfl, rfl, rfl⟩
  · refine wkP.aloadN 1 dlen_0 rfl rfl rfl ?_
    refine wkP.getF 4 (w22 g.1) F.2.2.1 Via.refl dlen_1 rfl ?_
    have hL := F.2.2.2.1.len
    rw [u16_len] at hL
    refine wkP.alen 5 (Int32.ofNat (2 * cs.length)) F.2.2.2.1 dlen_4 (by rw [u16_len]) rfl ?_
    refine wkP.aloadN 6 dlen_5 rfl rfl rfl ?_
    refine wkP.callV 9 (M_coderU l Z a0 g _ a b cs F) [] [(.int (Int32.ofNat (2 * cs.length)))] 1 g.2.1 F.1 (wkNFs (w56 g.1)) (w53 g.1) (w54 g.1) (w56 g.1) (w55 g.1) (w4 g.1) (w57 g.1) (by decide) dlen_6 (lenOf pd8 rfl) rfl rfl rfl (by simp) (Nat.le_of_eq rfl) (by decide) (by decide) (by decide) (by decide) rfl ?_
    rintro v47 _ o47 ⟨rfl, rfl, rfl⟩ K47
    refine wkP.ishr 10 (Int32.ofNat cs.length) dlen_9 (shr1 hL) rfl ?_
    exact wkP.retI .int [] g.2.1 dlen_10 rfl (by simp) rfl (by decide) (by decide) (by simp) ⟨rfl, rfl, rfl⟩
abbrev rpchk : Room := { frames := 0, cells := 0, slots := 0, locals := 0 }
set_option maxRecDepth 65536 in
set_option maxHeartbeats 4000000 in
theorem M_pchk (l : Launch) (Z : State) (a0 : Array Value) (g : G Z a0) (h : Heap) (i n : Nat) (fm : Value) (hr : fm.isRef = true) (hi : i < n) (hn : n < 2 ^ 31) : wkM l Z bpchk rpchk #[.int (Int32.ofNat i), .int (Int32.ofNat n), fm] h [] (fun v h' os => v = some (.int (Int32.ofNat i)) ∧ os = [] ∧ h = h') := by
  obtain rfl | ⟨fa, rfl⟩ := ref_cases hr
  · refine wkM.of #[.val (.int (Int32.ofNat i)), .val (.int (Int32.ofNat n)), .val .null] (plainFor_of_name (by first | (simp [plainName, overriddenIn]; done) | decide +kernel)) (fun m => by first | rfl | (simp [entryFrame, mkF, argsToLocals, Value.category]; done)) ?_
    refine wkP.iloadN 1 dpchk_0 rfl rfl ?_
    refine wkP.ifF 4 dpchk_1 (show ¬ ((Int32.ofNat i) < (0 : Int32)) from (nn_of (by omega))) rfl ?_
    refine wkP.iloadN 5 dpchk_4 rfl rfl ?_
    refine wkP.iloadN 6 dpchk_5 rfl rfl ?_
    refine wkP.icmpT 16 dpchk_6 (show (Int32.ofNat i) < (Int32.ofNat n) from ((ofNat_lt (by omega) hn).mpr hi)) (by decide) (by decide) ?_
    refine wkP.iloadN 17 dpchk_16 rfl rfl ?_
    exact wkP.retI .int [] g.2.1 dpchk_17 rfl (by simp) rfl (by decide) (by decide) (by simp) ⟨rfl, rfl, rfl⟩
  · refine wkM.of #[.val (.int (Int32.ofNat i)), .val (.int (Int32.ofNat n)), .val (.ref fa)] (plainFor_of_name (by first | (simp [plainName, overriddenIn]; done) | decide +kernel)) (fun m => by first | rfl | (simp [entryFrame, mkF, argsToLocals, Value.category]; done)) ?_
    refine wkP.iloadN 1 dpchk_0 rfl rfl ?_
    refine wkP.ifF 4 dpchk_1 (show ¬ ((Int32.ofNat i) < (0 : Int32)) from (nn_of (by omega))) rfl ?_
    refine wkP.iloadN 5 dpchk_4 rfl rfl ?_
    refine wkP.iloadN 6 dpchk_5 rfl rfl ?_
    refine wkP.icmpT 16 dpchk_6 (show (Int32.ofNat i) < (Int32.ofNat n) from ((ofNat_lt (by omega) hn).mpr hi)) (by decide) (by decide) ?_
    refine wkP.iloadN 17 dpchk_16 rfl rfl ?_
    exact wkP.retI .int [] g.2.1 dpchk_17 rfl (by simp) rfl (by decide) (by decide) (by simp) ⟨rfl, rfl, rfl⟩
abbrev rschk : Room := { frames := 1, cells := 0, slots := 0, locals := 14 }
set_option maxRecDepth 65536 in
set_option maxHeartbeats 4000000 in
theorem M_schk (l : Launch) (Z : State) (a0 : Array Value) (g : G Z a0) (h : Heap) (i n : Nat) (hi : i < n) (hn : n < 2 ^ 31) : wkM l Z bschk rschk #[.int (Int32.ofNat i), .int (Int32.ofNat n)] h [] (fun v h' os => v = none ∧ os = [] ∧ h = h') := by
  refine wkM.of #[.val (.int (Int32.ofNat i)), .val (.int (Int32.ofNat n))] (plainFor_of_name (by first | (simp [plainName, overriddenIn]; done) | decide +kernel)) (fun m => by first | rfl | (simp [entryFrame, mkF, argsToLocals, Value.category]; done)) ?_
  obtain ⟨fm, hfm, hr⟩ := g.2.2.2.1
  refine wkP.iloadN 1 dschk_0 rfl rfl ?_
  refine wkP.iloadN 2 dschk_1 rfl rfl ?_
  refine wkP.getS 5 (w75 g.1) hfm Via.refl dschk_2 rfl ?_
  have hcat : fm.category = 1 := by obtain rfl | ⟨_, rfl⟩ := ref_cases hr <;> rfl
  refine wkP.callS 8 (M_pchk l Z a0 g _ i n fm hr hi hn) [(.int (Int32.ofNat i)), (.int (Int32.ofNat n)), fm] [] 0 g.2.1 (w77 g.1) (w78 g.1) (w76 g.1) (w79 g.1) (by decide) dschk_5 (lenOf pd9 rfl) rfl rfl rfl (by simp) (Nat.le_of_eq rfl) (by decide) (by decide) (by decide) (by decide) rfl ?_
  rintro v48 _ o48 ⟨rfl, rfl, rfl⟩ K48
  refine wkP.pop 9 dschk_8 rfl rfl ?_
  exact wkP.ret0 [] g.2.1 dschk_9 rfl (by decide) (by decide) (by simp) ⟨rfl, rfl, rfl⟩
abbrev ruchk : Room := { frames := 2, cells := 0, slots := 0, locals := 27 }
set_option maxRecDepth 65536 in
set_option maxHeartbeats 4000000 in
theorem M_uchk (l : Launch) (Z : State) (a0 : Array Value) (g : G Z a0) (h : Heap) (d : Addr) (ys : List Int32) (i n : Nat) (F : Ia Z h d .byte ys) (hn : ys.length = 2 * n) (hi : i < n) : wkM l Z buchk ruchk #[.int (Int32.ofNat i), .ref d] h [] (fun v h' os => v = none ∧ os = [] ∧ h = h') := by
  refine wkM.of #[.val (.int (Int32.ofNat i)), .val (.ref d)] (plainFor_of_name (by first | (simp [plainName, overriddenIn]; done) | decide +kernel)) (fun m => by first | rfl | (simp [entryFrame, mkF, argsToLocals, Value.category]; done)) ?_
  have hL := F.len
  refine wkP.iloadN 1 duchk_0 rfl rfl ?_
  refine wkP.aloadN 2 duchk_1 rfl rfl rfl ?_
  refine wkP.callS 5 (M_ulen l Z a0 g _ d ys n F hn) [(.ref d)] [(.int (Int32.ofNat i))] 1 g.2.1 (w108 g.1) (w109 g.1) (w36 g.1) (w110 g.1) (by decide) duchk_2 (lenOf pd10 rfl) rfl rfl rfl (by simp) (Nat.le_of_eq rfl) (by decide) (by decide) (by decide) (by decide) rfl ?_
  rintro v49 _ o49 ⟨rfl, rfl, rfl⟩ K49
  refine wkP.callS 8 (M_schk l Z a0 g _ i n hi (by omega)) [(.int (Int32.ofNat i)), (.int (Int32.ofNat n))] [] 0 g.2.1 (w111 g.1) (w73 g.1) (w4 g.1) (w74 g.1) (by decide) duchk_5 (lenOf pd11 rfl) rfl rfl rfl (by simp) (Nat.le_of_eq rfl) (by decide) (by decide) (by decide) (by decide) rfl ?_
  rintro v50 _ o50 ⟨rfl, rfl, rfl⟩ K50
  exact wkP.ret0 [] g.2.1 duchk_8 rfl (by decide) (by decide) (by simp) ⟨rfl, rfl, rfl⟩
abbrev rlch : Room := { frames := 2, cells := 0, slots := 0, locals := 27 }
set_option maxRecDepth 65536 in
set_option maxHeartbeats 4000000 in
theorem M_lch (l : Launch) (Z : State) (a0 : Array Value) (g : G Z a0) (h : Heap) (d : Addr) (cs : List Int32) (i : Nat) (c : Int32) (F : Ia Z h d .byte (cs.map lo8)) (hc : cs[i]? = some c) (hch : ¬ c < 0 ∧ ¬ 255 < c) : wkM l Z blch rlch #[.ref d, .int (Int32.ofNat i)] h [] (fun v h' os => v = some (.int c) ∧ os = [] ∧ h = h') := by
  refine wkM.of #[.val (.ref d), .val (.int (Int32.ofNat i))] (plainFor_of_name (by first | (simp [plainName, overriddenIn]; done) | decide +kernel)) (fun m => by first | rfl | (simp [entryFrame, mkF, argsToLocals, Value.category]; done)) ?_
  have hi : i < cs.length := (List.getElem?_eq_some_iff.mp hc).1
  have hL : cs.length < 2 ^ 31 := by have := F.len; simpa using this
  refine wkP.iloadN 1 dlch_0 rfl rfl ?_
  refine wkP.aloadN 2 dlch_1 rfl rfl rfl ?_
  refine wkP.alen 3 (Int32.ofNat cs.length) F dlch_2 (by simp) rfl ?_
  refine wkP.callS 6 (M_schk l Z a0 g _ i cs.length hi hL) [(.int (Int32.ofNat i)), (.int (Int32.ofNat cs.length))] [] 0 g.2.1 (w72 g.1) (w73 g.1) (w4 g.1) (w74 g.1) (by decide) dlch_3 (lenOf pd11 rfl) rfl rfl rfl (by simp) (Nat.le_of_eq rfl) (by decide) (by decide) (by decide) (by decide) rfl ?_
  rintro v51 _ o51 ⟨rfl, rfl, rfl⟩ K51
  refine wkP.aloadN 7 dlch_6 rfl rfl rfl ?_
  refine wkP.iloadN 8 dlch_7 rfl rfl ?_
  refine wkP.baload 9 i (lo8 c) F dlch_8 (toI (by omega)) (by simp [hc]) rfl ?_
  refine wkP.sipush 12 (255 : Int32) dlch_9 rfl rfl ?_
  refine wkP.iand 13 ((lo8 c) &&& (255 : Int32)) dlch_12 rfl rfl ?_
  refine wkP.i2c 14 c dlch_13 (lat_get hch) rfl ?_
  exact wkP.retI .char [] g.2.1 dlch_14 rfl (by simp) (by show Value.int (nar .char c) = _; rw [nar_c ⟨hch.1, by have := hch.2; simp only [Int32.lt_iff_toInt_lt, Int32.reduceToInt] at this ⊢; omega⟩]) (by decide) (by decide) (by simp) ⟨rfl, rfl, rfl⟩
abbrev ruch : Room := { frames := 3, cells := 0, slots := 0, locals := 40 }
set_option maxRecDepth 65536 in
set_option maxHeartbeats 4000000 in
theorem M_uch (l : Launch) (Z : State) (a0 : Array Value) (g : G Z a0) (h : Heap) (d : Addr) (cs : List Int32) (i : Nat) (c : Int32) (F : Ia Z h d .byte (u16 cs)) (hc : cs[i]? = some c) (hch : ¬ c < 0 ∧ ¬ 65535 < c) : wkM l Z buch ruch #[.ref d, .int (Int32.ofNat i)] h [] (fun v h' os => v = some (.int c) ∧ os = [] ∧ h = h') := by
  refine wkM.of #[.val (.ref d), .val (.int (Int32.ofNat i))] (plainFor_of_name (by first | (simp [plainName, overriddenIn]; done) | decide +kernel)) (fun m => by first | rfl | (simp [entryFrame, mkF, argsToLocals, Value.category]; done)) ?_
  have hi : i < cs.length := (List.getElem?_eq_some_iff.mp hc).1
  refine wkP.iloadN 1 duch_0 rfl rfl ?_
  refine wkP.aloadN 2 duch_1 rfl rfl rfl ?_
  refine wkP.callS 5 (M_uchk l Z a0 g _ d (u16 cs) i cs.length F (u16_len cs) hi) [(.int (Int32.ofNat i)), (.ref d)] [] 0 g.2.1 (w105 g.1) (w106 g.1) (w36 g.1) (w107 g.1) (by decide) duch_2 (lenOf pd12 rfl) rfl rfl rfl (by simp) (Nat.le_of_eq rfl) (by decide) (by decide) (by decide) (by decide) rfl ?_
  rintro v52 _ o52 ⟨rfl, rfl, rfl⟩ K52
  refine wkP.aloadN 6 duch_5 rfl rfl rfl ?_
  refine wkP.iloadN 7 duch_6 rfl rfl ?_
  refine wkP.callS 10 (M_getC l Z a0 g _ d cs i c F hc hch) [(.ref d), (.int (Int32.ofNat i))] [] 0 g.2.1 (w99 g.1) (w100 g.1) (w36 g.1) (w101 g.1) (by decide) duch_7 (lenOf pd5 rfl) rfl rfl rfl (by simp) (Nat.le_of_eq rfl) (by decide) (by decide) (by decide) (by decide) rfl ?_
  rintro v53 _ o53 ⟨rfl, rfl, rfl⟩ K53
  exact wkP.retI .char [] g.2.1 duch_10 rfl (by simp) (by show Value.int (nar .char c) = _; rw [nar_c hch]) (by decide) (by decide) (by simp) ⟨rfl, rfl, rfl⟩
abbrev rchAt : Room := { frames := 4, cells := 0, slots := 0, locals := 53 }
set_option maxRecDepth 65536 in
set_option maxHeartbeats 4000000 in
theorem M_chAt (l : Launch) (Z : State) (a0 : Array Value) (g : G Z a0) (h : Heap) (a b : Addr) (cs : List Int32) (F : St Z h a b cs) (i : Nat) (c : Int32) (hc : cs[i]? = some c) (hch : ¬ c < 0 ∧ ¬ 65535 < c) : wkM l Z bchAt rchAt #[.ref a, .int (Int32.ofNat i)] h [] (fun v h' os => v = some (.int c) ∧ os = [] ∧ h = h') := by
  refine wkM.of #[.val (.ref a), .val (.int (Int32.ofNat i))] (plainFor_of_name (by first | (simp [plainName, overriddenIn]; done) | decide +kernel)) (fun m => by first | rfl | (simp [entryFrame, mkF, argsToLocals, Value.category]; done)) ?_
  rcases F with F | F
  · refine wkP.aloadN 1 dchAt_0 rfl rfl rfl ?_
    refine wkP.callV 4 (M_isLatL l Z a0 g _ a b cs F) [] [] 0 g.2.1 F.1 (wkNFs (w66 g.1)) (w63 g.1) (w64 g.1) (w66 g.1) (w65 g.1) (w4 g.1) (w67 g.1) (by decide) dchAt_1 (lenOf pd13 rfl) rfl rfl rfl (by simp) (Nat.le_of_eq rfl) (by decide) (by decide) (by decide) (by decide) rfl ?_
    rintro v54 _ o54 ⟨rfl, rfl, rfl⟩ K54
    refine wkP.ifF 7 dchAt_4 (show ¬ ((1 : Int32) = (0 : Int32)) from (by decide)) rfl ?_
    refine wkP.aloadN 8 dchAt_7 rfl rfl rfl ?_
    refine wkP.getF 11 (w22 g.1) F.2.2.1 Via.refl dchAt_8 rfl ?_
    refine wkP.iloadN 12 dchAt_11 rfl rfl ?_
    refine wkP.callS 15 (M_lch l Z a0 g _ b cs i c F.2.2.2.1 hc (F.2.2.2.2 c (List.mem_of_getElem? hc))) [(.ref b), (.int (Int32.ofNat i))] [] 0 g.2.1 (w68 g.1) (w69 g.1) (w70 g.1) (w71 g.1) (by decide) dchAt_12 (lenOf pd5 rfl) rfl rfl rfl (by simp) (Nat.le_of_eq rfl) (by decide) (by decide) (by decide) (by decide) rfl ?_
    rintro v55 _ o55 ⟨rfl, rfl, rfl⟩ K55
    exact wkP.retI .char [] g.2.1 dchAt_15 rfl (by simp) (by show Value.int (nar .char c) = _; rw [nar_c hch]) (by decide) (by decide) (by simp) ⟨rfl, rfl, rfl⟩
  · refine wkP.aloadN 1 dchAt_0 rfl rfl rfl ?_
    refine wkP.callV 4 (M_isLatU l Z a0 g _ a b cs F) [] [] 0 g.2.1 F.1 (wkNFs (w66 g.1)) (w63 g.1) (w64 g.1) (w66 g.1) (w65 g.1) (w4 g.1) (w67 g.1) (by decide) dchAt_1 (lenOf pd13 rfl) rfl rfl rfl (by simp) (Nat.le_of_eq rfl) (by decide) (by decide) (by decide) (by decide) rfl ?_
    rintro v56 _ o56 ⟨rfl, rfl, rfl⟩ K56
    refine wkP.ifT 16 dchAt_4 (show (0 : Int32) = (0 : Int32) from (by decide)) (by decide) (by decide) ?_
    refine wkP.aloadN 17 dchAt_16 rfl rfl rfl ?_
    refine wkP.getF 20 (w22 g.1) F.2.2.1 Via.refl dchAt_17 rfl ?_
    refine wkP.iloadN 21 dchAt_20 rfl rfl ?_
    refine wkP.callS 24 (M_uch l Z a0 g _ b cs i c F.2.2.2.1 hc (F.2.2.2.2.1 c (List.mem_of_getElem? hc))) [(.ref b), (.int (Int32.ofNat i))] [] 0 g.2.1 (w102 g.1) (w103 g.1) (w36 g.1) (w104 g.1) (by decide) dchAt_21 (lenOf pd5 rfl) rfl rfl rfl (by simp) (Nat.le_of_eq rfl) (by decide) (by decide) (by decide) (by decide) rfl ?_
    rintro v57 _ o57 ⟨rfl, rfl, rfl⟩ K57
    exact wkP.retI .char [] g.2.1 dchAt_24 rfl (by simp) (by show Value.int (nar .char c) = _; rw [nar_c hch]) (by decide) (by decide) (by simp) ⟨rfl, rfl, rfl⟩
abbrev risEmp : Room := { frames := 0, cells := 0, slots := 0, locals := 0 }
set_option maxRecDepth 65536 in
set_option maxHeartbeats 4000000 in
theorem M_isEmp (l : Launch) (Z : State) (a0 : Array Value) (g : G Z a0) (h : Heap) (a b : Addr) (cs : List Int32) (F : St Z h a b cs)  : wkM l Z bisEmp risEmp #[.ref a] h [] (fun v h' os => v = some (.int (if cs = [] then 1 else 0)) ∧ os = [] ∧ h = h') := by
  refine wkM.of #[.val (.ref a)] (plainFor_of_name (by first | (simp [plainName, overriddenIn]; done) | decide +kernel)) (fun m => by first | rfl | (simp [entryFrame, mkF, argsToLocals, Value.category]; done)) ?_
  rcases F with F | F
  · refine wkP.aloadN 1 disEmp_0 rfl rfl rfl ?_
    refine wkP.getF 4 (w22 g.1) F.2.2.1 Via.refl disEmp_1 rfl ?_
    have hL := F.2.2.2.1.len
    refine wkP.alen 5 (Int32.ofNat cs.length) F.2.2.2.1 disEmp_4 (by simp) rfl ?_
    simp only [List.length_map] at hL
    by_cases hq : cs = []
    · refine wkP.ifF 8 disEmp_5 (show ¬ (¬ (Int32.ofNat cs.length) = (0 : Int32)) from (fun q => q (by rw [hq]; rfl))) rfl ?_
      refine wkP.iconst 9 (1 : Int32) disEmp_8 rfl rfl ?_
      refine wkP.goto 13 disEmp_9 (by decide) (by decide) ?_
      exact wkP.retI .boolean [] g.2.1 disEmp_13 rfl (by simp) rfl (by decide) (by decide) (by simp) ⟨by rw [if_pos hq], rfl, rfl⟩
    · refine wkP.ifT 12 disEmp_5 (show ¬ (Int32.ofNat cs.length) = (0 : Int32) from (fun e => hq (List.length_eq_zero_iff.mp (by have := (ofNat_inj (j := 0) hL (by decide)).mp e; omega)))) (by decide) (by decide) ?_
      refine wkP.iconst 13 (0 : Int32) disEmp_12 rfl rfl ?_
      exact wkP.retI .boolean [] g.2.1 disEmp_13 rfl (by simp) rfl (by decide) (by decide) (by simp) ⟨by rw [if_neg hq], rfl, rfl⟩
  · refine wkP.aloadN 1 disEmp_0 rfl rfl rfl ?_
    refine wkP.getF 4 (w22 g.1) F.2.2.1 Via.refl disEmp_1 rfl ?_
    have hL := F.2.2.2.1.len
    rw [u16_len] at hL
    refine wkP.alen 5 (Int32.ofNat (2 * cs.length)) F.2.2.2.1 disEmp_4 (by rw [u16_len]) rfl ?_
    by_cases hq : cs = []
    · refine wkP.ifF 8 disEmp_5 (show ¬ (¬ (Int32.ofNat (2 * cs.length)) = (0 : Int32)) from (fun q => q (by rw [hq]; rfl))) rfl ?_
      refine wkP.iconst 9 (1 : Int32) disEmp_8 rfl rfl ?_
      refine wkP.goto 13 disEmp_9 (by decide) (by decide) ?_
      exact wkP.retI .boolean [] g.2.1 disEmp_13 rfl (by simp) rfl (by decide) (by decide) (by simp) ⟨by rw [if_pos hq], rfl, rfl⟩
    · refine wkP.ifT 12 disEmp_5 (show ¬ (Int32.ofNat (2 * cs.length)) = (0 : Int32) from (fun e => hq (List.length_eq_zero_iff.mp (by have := (ofNat_inj (j := 0) hL (by decide)).mp e; omega)))) (by decide) (by decide) ?_
      refine wkP.iconst 13 (0 : Int32) disEmp_12 rfl rfl ?_
      exact wkP.retI .boolean [] g.2.1 disEmp_13 rfl (by simp) rfl (by decide) (by decide) (by simp) ⟨by rw [if_neg hq], rfl, rfl⟩
def okc (c : Int32) : Prop := (¬ c < 48 ∧ ¬ 57 < c) ∨ (¬ c < 65 ∧ ¬ 90 < c) ∨ (¬ c < 97 ∧ ¬ 122 < c) ∨ c = 46 ∨ c = 95 ∨ c = 45
instance (c : Int32) : Decidable (okc c) := by unfold okc; infer_instance
def nm (cs : List Int32) : Prop := cs ≠ [] ∧ ∀ c ∈ cs, okc c
instance (cs : List Int32) : Decidable (nm cs) := by unfold nm; infer_instance
abbrev rok : Room := { frames := 0, cells := 0, slots := 0, locals := 0 }
set_option maxRecDepth 65536 in
set_option maxHeartbeats 4000000 in
theorem M_ok (l : Launch) (Z : State) (a0 : Array Value) (g : G Z a0) (h : Heap) (c : Int32) : wkM l Z bok rok #[.int c] h [] (fun v h' os => v = some (.int (if okc c then 1 else 0)) ∧ os = [] ∧ h = h') := by
  refine wkM.of #[.val (.int c)] (plainFor_of_name (by first | (simp [plainName, overriddenIn]; done) | decide +kernel)) (fun m => by first | rfl | (simp [entryFrame, mkF, argsToLocals, Value.category]; done)) ?_
  refine wkP.iloadN 1 dok_0 rfl rfl ?_
  refine wkP.bipush 3 (48 : Int32) dok_1 rfl rfl ?_
  by_cases q1 : c < (48 : Int32)
  · refine wkP.icmpT 14 dok_3 (show c < (48 : Int32) from q1) (by decide) (by decide) ?_
    refine wkP.iloadN 15 dok_14 rfl rfl ?_
    refine wkP.bipush 17 (65 : Int32) dok_15 rfl rfl ?_
    by_cases q2 : c < (65 : Int32)
    · refine wkP.icmpT 28 dok_17 (show c < (65 : Int32) from q2) (by decide) (by decide) ?_
      refine wkP.iloadN 29 dok_28 rfl rfl ?_
      refine wkP.bipush 31 (97 : Int32) dok_29 rfl rfl ?_
      by_cases q3 : c < (97 : Int32)
      · refine wkP.icmpT 42 dok_31 (show c < (97 : Int32) from q3) (by decide) (by decide) ?_
        refine wkP.iloadN 43 dok_42 rfl rfl ?_
        refine wkP.bipush 45 (46 : Int32) dok_43 rfl rfl ?_
        by_cases q4 : c = (46 : Int32)
        · refine wkP.icmpT 60 dok_45 (show c = (46 : Int32) from q4) (by decide) (by decide) ?_
          refine wkP.iconst 61 (1 : Int32) dok_60 rfl rfl ?_
          refine wkP.goto 65 dok_61 (by decide) (by decide) ?_
          exact wkP.retI .boolean [] g.2.1 dok_65 rfl (by simp) rfl (by decide) (by decide) (by simp) ⟨by rw [if_pos (by unfold okc; simp_all)], rfl, rfl⟩
        · refine wkP.icmpF 48 dok_45 (show ¬ (c = (46 : Int32)) from q4) rfl ?_
          refine wkP.iloadN 49 dok_48 rfl rfl ?_
          refine wkP.bipush 51 (95 : Int32) dok_49 rfl rfl ?_
          by_cases q5 : c = (95 : Int32)
          · refine wkP.icmpT 60 dok_51 (show c = (95 : Int32) from q5) (by decide) (by decide) ?_
            refine wkP.iconst 61 (1 : Int32) dok_60 rfl rfl ?_
            refine wkP.goto 65 dok_61 (by decide) (by decide) ?_
            exact wkP.retI .boolean [] g.2.1 dok_65 rfl (by simp) rfl (by decide) (by decide) (by simp) ⟨by rw [if_pos (by unfold okc; simp_all)], rfl, rfl⟩
          · refine wkP.icmpF 54 dok_51 (show ¬ (c = (95 : Int32)) from q5) rfl ?_
            refine wkP.iloadN 55 dok_54 rfl rfl ?_
            refine wkP.bipush 57 (45 : Int32) dok_55 rfl rfl ?_
            by_cases q6 : c = (45 : Int32)
            · refine wkP.icmpF 60 dok_57 (show ¬ (¬ c = (45 : Int32)) from (fun q => q q6)) rfl ?_
              refine wkP.iconst 61 (1 : Int32) dok_60 rfl rfl ?_
              refine wkP.goto 65 dok_61 (by decide) (by decide) ?_
              exact wkP.retI .boolean [] g.2.1 dok_65 rfl (by simp) rfl (by decide) (by decide) (by simp) ⟨by rw [if_pos (by unfold okc; simp_all)], rfl, rfl⟩
            · refine wkP.icmpT 64 dok_57 (show ¬ c = (45 : Int32) from q6) (by decide) (by decide) ?_
              refine wkP.iconst 65 (0 : Int32) dok_64 rfl rfl ?_
              exact wkP.retI .boolean [] g.2.1 dok_65 rfl (by simp) rfl (by decide) (by decide) (by simp) ⟨by rw [if_neg (by unfold okc; simp_all)], rfl, rfl⟩
      · refine wkP.icmpF 34 dok_31 (show ¬ (c < (97 : Int32)) from q3) rfl ?_
        refine wkP.iloadN 35 dok_34 rfl rfl ?_
        refine wkP.bipush 37 (122 : Int32) dok_35 rfl rfl ?_
        by_cases q7 : (122 : Int32) < c
        · refine wkP.icmpT 42 dok_37 (show (122 : Int32) < c from q7) (by decide) (by decide) ?_
          refine wkP.iloadN 43 dok_42 rfl rfl ?_
          refine wkP.bipush 45 (46 : Int32) dok_43 rfl rfl ?_
          by_cases q8 : c = (46 : Int32)
          · refine wkP.icmpT 60 dok_45 (show c = (46 : Int32) from q8) (by decide) (by decide) ?_
            refine wkP.iconst 61 (1 : Int32) dok_60 rfl rfl ?_
            refine wkP.goto 65 dok_61 (by decide) (by decide) ?_
            exact wkP.retI .boolean [] g.2.1 dok_65 rfl (by simp) rfl (by decide) (by decide) (by simp) ⟨by rw [if_pos (by unfold okc; simp_all)], rfl, rfl⟩
          · refine wkP.icmpF 48 dok_45 (show ¬ (c = (46 : Int32)) from q8) rfl ?_
            refine wkP.iloadN 49 dok_48 rfl rfl ?_
            refine wkP.bipush 51 (95 : Int32) dok_49 rfl rfl ?_
            by_cases q9 : c = (95 : Int32)
            · refine wkP.icmpT 60 dok_51 (show c = (95 : Int32) from q9) (by decide) (by decide) ?_
              refine wkP.iconst 61 (1 : Int32) dok_60 rfl rfl ?_
              refine wkP.goto 65 dok_61 (by decide) (by decide) ?_
              exact wkP.retI .boolean [] g.2.1 dok_65 rfl (by simp) rfl (by decide) (by decide) (by simp) ⟨by rw [if_pos (by unfold okc; simp_all)], rfl, rfl⟩
            · refine wkP.icmpF 54 dok_51 (show ¬ (c = (95 : Int32)) from q9) rfl ?_
              refine wkP.iloadN 55 dok_54 rfl rfl ?_
              refine wkP.bipush 57 (45 : Int32) dok_55 rfl rfl ?_
              by_cases q10 : c = (45 : Int32)
              · refine wkP.icmpF 60 dok_57 (show ¬ (¬ c = (45 : Int32)) from (fun q => q q10)) rfl ?_
                refine wkP.iconst 61 (1 : Int32) dok_60 rfl rfl ?_
                refine wkP.goto 65 dok_61 (by decide) (by decide) ?_
                exact wkP.retI .boolean [] g.2.1 dok_65 rfl (by simp) rfl (by decide) (by decide) (by simp) ⟨by rw [if_pos (by unfold okc; simp_all)], rfl, rfl⟩
              · refine wkP.icmpT 64 dok_57 (show ¬ c = (45 : Int32) from q10) (by decide) (by decide) ?_
                refine wkP.iconst 65 (0 : Int32) dok_64 rfl rfl ?_
                exact wkP.retI .boolean [] g.2.1 dok_65 rfl (by simp) rfl (by decide) (by decide) (by simp) ⟨by rw [if_neg (by unfold okc; simp_all)], rfl, rfl⟩
        · refine wkP.icmpF 40 dok_37 (show ¬ ((122 : Int32) < c) from q7) rfl ?_
          refine wkP.iconst 41 (1 : Int32) dok_40 rfl rfl ?_
          exact wkP.retI .boolean [] g.2.1 dok_41 rfl (by simp) rfl (by decide) (by decide) (by simp) ⟨by rw [if_pos (by unfold okc; simp_all)], rfl, rfl⟩
    · refine wkP.icmpF 20 dok_17 (show ¬ (c < (65 : Int32)) from q2) rfl ?_
      refine wkP.iloadN 21 dok_20 rfl rfl ?_
      refine wkP.bipush 23 (90 : Int32) dok_21 rfl rfl ?_
      by_cases q11 : (90 : Int32) < c
      · refine wkP.icmpT 28 dok_23 (show (90 : Int32) < c from q11) (by decide) (by decide) ?_
        refine wkP.iloadN 29 dok_28 rfl rfl ?_
        refine wkP.bipush 31 (97 : Int32) dok_29 rfl rfl ?_
        by_cases q12 : c < (97 : Int32)
        · refine wkP.icmpT 42 dok_31 (show c < (97 : Int32) from q12) (by decide) (by decide) ?_
          refine wkP.iloadN 43 dok_42 rfl rfl ?_
          refine wkP.bipush 45 (46 : Int32) dok_43 rfl rfl ?_
          by_cases q13 : c = (46 : Int32)
          · refine wkP.icmpT 60 dok_45 (show c = (46 : Int32) from q13) (by decide) (by decide) ?_
            refine wkP.iconst 61 (1 : Int32) dok_60 rfl rfl ?_
            refine wkP.goto 65 dok_61 (by decide) (by decide) ?_
            exact wkP.retI .boolean [] g.2.1 dok_65 rfl (by simp) rfl (by decide) (by decide) (by simp) ⟨by rw [if_pos (by unfold okc; simp_all)], rfl, rfl⟩
          · refine wkP.icmpF 48 dok_45 (show ¬ (c = (46 : Int32)) from q13) rfl ?_
            refine wkP.iloadN 49 dok_48 rfl rfl ?_
            refine wkP.bipush 51 (95 : Int32) dok_49 rfl rfl ?_
            by_cases q14 : c = (95 : Int32)
            · refine wkP.icmpT 60 dok_51 (show c = (95 : Int32) from q14) (by decide) (by decide) ?_
              refine wkP.iconst 61 (1 : Int32) dok_60 rfl rfl ?_
              refine wkP.goto 65 dok_61 (by decide) (by decide) ?_
              exact wkP.retI .boolean [] g.2.1 dok_65 rfl (by simp) rfl (by decide) (by decide) (by simp) ⟨by rw [if_pos (by unfold okc; simp_all)], rfl, rfl⟩
            · refine wkP.icmpF 54 dok_51 (show ¬ (c = (95 : Int32)) from q14) rfl ?_
              refine wkP.iloadN 55 dok_54 rfl rfl ?_
              refine wkP.bipush 57 (45 : Int32) dok_55 rfl rfl ?_
              by_cases q15 : c = (45 : Int32)
              · refine wkP.icmpF 60 dok_57 (show ¬ (¬ c = (45 : Int32)) from (fun q => q q15)) rfl ?_
                refine wkP.iconst 61 (1 : Int32) dok_60 rfl rfl ?_
                refine wkP.goto 65 dok_61 (by decide) (by decide) ?_
                exact wkP.retI .boolean [] g.2.1 dok_65 rfl (by simp) rfl (by decide) (by decide) (by simp) ⟨by rw [if_pos (by unfold okc; simp_all)], rfl, rfl⟩
              · refine wkP.icmpT 64 dok_57 (show ¬ c = (45 : Int32) from q15) (by decide) (by decide) ?_
                refine wkP.iconst 65 (0 : Int32) dok_64 rfl rfl ?_
                exact wkP.retI .boolean [] g.2.1 dok_65 rfl (by simp) rfl (by decide) (by decide) (by simp) ⟨by rw [if_neg (by unfold okc; simp_all)], rfl, rfl⟩
        · refine wkP.icmpF 34 dok_31 (show ¬ (c < (97 : Int32)) from q12) rfl ?_
          refine wkP.iloadN 35 dok_34 rfl rfl ?_
          refine wkP.bipush 37 (122 : Int32) dok_35 rfl rfl ?_
          by_cases q16 : (122 : Int32) < c
          · refine wkP.icmpT 42 dok_37 (show (122 : Int32) < c from q16) (by decide) (by decide) ?_
            refine wkP.iloadN 43 dok_42 rfl rfl ?_
            refine wkP.bipush 45 (46 : Int32) dok_43 rfl rfl ?_
            by_cases q17 : c = (46 : Int32)
            · refine wkP.icmpT 60 dok_45 (show c = (46 : Int32) from q17) (by decide) (by decide) ?_
              refine wkP.iconst 61 (1 : Int32) dok_60 rfl rfl ?_
              refine wkP.goto 65 dok_61 (by decide) (by decide) ?_
              exact wkP.retI .boolean [] g.2.1 dok_65 rfl (by simp) rfl (by decide) (by decide) (by simp) ⟨by rw [if_pos (by unfold okc; simp_all)], rfl, rfl⟩
            · refine wkP.icmpF 48 dok_45 (show ¬ (c = (46 : Int32)) from q17) rfl ?_
              refine wkP.iloadN 49 dok_48 rfl rfl ?_
              refine wkP.bipush 51 (95 : Int32) dok_49 rfl rfl ?_
              by_cases q18 : c = (95 : Int32)
              · refine wkP.icmpT 60 dok_51 (show c = (95 : Int32) from q18) (by decide) (by decide) ?_
                refine wkP.iconst 61 (1 : Int32) dok_60 rfl rfl ?_
                refine wkP.goto 65 dok_61 (by decide) (by decide) ?_
                exact wkP.retI .boolean [] g.2.1 dok_65 rfl (by simp) rfl (by decide) (by decide) (by simp) ⟨by rw [if_pos (by unfold okc; simp_all)], rfl, rfl⟩
              · refine wkP.icmpF 54 dok_51 (show ¬ (c = (95 : Int32)) from q18) rfl ?_
                refine wkP.iloadN 55 dok_54 rfl rfl ?_
                refine wkP.bipush 57 (45 : Int32) dok_55 rfl rfl ?_
                by_cases q19 : c = (45 : Int32)
                · refine wkP.icmpF 60 dok_57 (show ¬ (¬ c = (45 : Int32)) from (fun q => q q19)) rfl ?_
                  refine wkP.iconst 61 (1 : Int32) dok_60 rfl rfl ?_
                  refine wkP.goto 65 dok_61 (by decide) (by decide) ?_
                  exact wkP.retI .boolean [] g.2.1 dok_65 rfl (by simp) rfl (by decide) (by decide) (by simp) ⟨by rw [if_pos (by unfold okc; simp_all)], rfl, rfl⟩
                · refine wkP.icmpT 64 dok_57 (show ¬ c = (45 : Int32) from q19) (by decide) (by decide) ?_
                  refine wkP.iconst 65 (0 : Int32) dok_64 rfl rfl ?_
                  exact wkP.retI .boolean [] g.2.1 dok_65 rfl (by simp) rfl (by decide) (by decide) (by simp) ⟨by rw [if_neg (by unfold okc; simp_all)], rfl, rfl⟩
          · refine wkP.icmpF 40 dok_37 (show ¬ ((122 : Int32) < c) from q16) rfl ?_
            refine wkP.iconst 41 (1 : Int32) dok_40 rfl rfl ?_
            exact wkP.retI .boolean [] g.2.1 dok_41 rfl (by simp) rfl (by decide) (by decide) (by simp) ⟨by rw [if_pos (by unfold okc; simp_all)], rfl, rfl⟩
      · refine wkP.icmpF 26 dok_23 (show ¬ ((90 : Int32) < c) from q11) rfl ?_
        refine wkP.iconst 27 (1 : Int32) dok_26 rfl rfl ?_
        exact wkP.retI .boolean [] g.2.1 dok_27 rfl (by simp) rfl (by decide) (by decide) (by simp) ⟨by rw [if_pos (by unfold okc; simp_all)], rfl, rfl⟩
  · refine wkP.icmpF 6 dok_3 (show ¬ (c < (48 : Int32)) from q1) rfl ?_
    refine wkP.iloadN 7 dok_6 rfl rfl ?_
    refine wkP.bipush 9 (57 : Int32) dok_7 rfl rfl ?_
    by_cases q20 : (57 : Int32) < c
    · refine wkP.icmpT 14 dok_9 (show (57 : Int32) < c from q20) (by decide) (by decide) ?_
      refine wkP.iloadN 15 dok_14 rfl rfl ?_
      refine wkP.bipush 17 (65 : Int32) dok_15 rfl rfl ?_
      by_cases q21 : c < (65 : Int32)
      · refine wkP.icmpT 28 dok_17 (show c < (65 : Int32) from q21) (by decide) (by decide) ?_
        refine wkP.iloadN 29 dok_28 rfl rfl ?_
        refine wkP.bipush 31 (97 : Int32) dok_29 rfl rfl ?_
        by_cases q22 : c < (97 : Int32)
        · refine wkP.icmpT 42 dok_31 (show c < (97 : Int32) from q22) (by decide) (by decide) ?_
          refine wkP.iloadN 43 dok_42 rfl rfl ?_
          refine wkP.bipush 45 (46 : Int32) dok_43 rfl rfl ?_
          by_cases q23 : c = (46 : Int32)
          · refine wkP.icmpT 60 dok_45 (show c = (46 : Int32) from q23) (by decide) (by decide) ?_
            refine wkP.iconst 61 (1 : Int32) dok_60 rfl rfl ?_
            refine wkP.goto 65 dok_61 (by decide) (by decide) ?_
            exact wkP.retI .boolean [] g.2.1 dok_65 rfl (by simp) rfl (by decide) (by decide) (by simp) ⟨by rw [if_pos (by unfold okc; simp_all)], rfl, rfl⟩
          · refine wkP.icmpF 48 dok_45 (show ¬ (c = (46 : Int32)) from q23) rfl ?_
            refine wkP.iloadN 49 dok_48 rfl rfl ?_
            refine wkP.bipush 51 (95 : Int32) dok_49 rfl rfl ?_
            by_cases q24 : c = (95 : Int32)
            · refine wkP.icmpT 60 dok_51 (show c = (95 : Int32) from q24) (by decide) (by decide) ?_
              refine wkP.iconst 61 (1 : Int32) dok_60 rfl rfl ?_
              refine wkP.goto 65 dok_61 (by decide) (by decide) ?_
              exact wkP.retI .boolean [] g.2.1 dok_65 rfl (by simp) rfl (by decide) (by decide) (by simp) ⟨by rw [if_pos (by unfold okc; simp_all)], rfl, rfl⟩
            · refine wkP.icmpF 54 dok_51 (show ¬ (c = (95 : Int32)) from q24) rfl ?_
              refine wkP.iloadN 55 dok_54 rfl rfl ?_
              refine wkP.bipush 57 (45 : Int32) dok_55 rfl rfl ?_
              by_cases q25 : c = (45 : Int32)
              · refine wkP.icmpF 60 dok_57 (show ¬ (¬ c = (45 : Int32)) from (fun q => q q25)) rfl ?_
                refine wkP.iconst 61 (1 : Int32) dok_60 rfl rfl ?_
                refine wkP.goto 65 dok_61 (by decide) (by decide) ?_
                exact wkP.retI .boolean [] g.2.1 dok_65 rfl (by simp) rfl (by decide) (by decide) (by simp) ⟨by rw [if_pos (by unfold okc; simp_all)], rfl, rfl⟩
              · refine wkP.icmpT 64 dok_57 (show ¬ c = (45 : Int32) from q25) (by decide) (by decide) ?_
                refine wkP.iconst 65 (0 : Int32) dok_64 rfl rfl ?_
                exact wkP.retI .boolean [] g.2.1 dok_65 rfl (by simp) rfl (by decide) (by decide) (by simp) ⟨by rw [if_neg (by unfold okc; simp_all)], rfl, rfl⟩
        · refine wkP.icmpF 34 dok_31 (show ¬ (c < (97 : Int32)) from q22) rfl ?_
          refine wkP.iloadN 35 dok_34 rfl rfl ?_
          refine wkP.bipush 37 (122 : Int32) dok_35 rfl rfl ?_
          by_cases q26 : (122 : Int32) < c
          · refine wkP.icmpT 42 dok_37 (show (122 : Int32) < c from q26) (by decide) (by decide) ?_
            refine wkP.iloadN 43 dok_42 rfl rfl ?_
            refine wkP.bipush 45 (46 : Int32) dok_43 rfl rfl ?_
            by_cases q27 : c = (46 : Int32)
            · refine wkP.icmpT 60 dok_45 (show c = (46 : Int32) from q27) (by decide) (by decide) ?_
              refine wkP.iconst 61 (1 : Int32) dok_60 rfl rfl ?_
              refine wkP.goto 65 dok_61 (by decide) (by decide) ?_
              exact wkP.retI .boolean [] g.2.1 dok_65 rfl (by simp) rfl (by decide) (by decide) (by simp) ⟨by rw [if_pos (by unfold okc; simp_all)], rfl, rfl⟩
            · refine wkP.icmpF 48 dok_45 (show ¬ (c = (46 : Int32)) from q27) rfl ?_
              refine wkP.iloadN 49 dok_48 rfl rfl ?_
              refine wkP.bipush 51 (95 : Int32) dok_49 rfl rfl ?_
              by_cases q28 : c = (95 : Int32)
              · refine wkP.icmpT 60 dok_51 (show c = (95 : Int32) from q28) (by decide) (by decide) ?_
                refine wkP.iconst 61 (1 : Int32) dok_60 rfl rfl ?_
                refine wkP.goto 65 dok_61 (by decide) (by decide) ?_
                exact wkP.retI .boolean [] g.2.1 dok_65 rfl (by simp) rfl (by decide) (by decide) (by simp) ⟨by rw [if_pos (by unfold okc; simp_all)], rfl, rfl⟩
              · refine wkP.icmpF 54 dok_51 (show ¬ (c = (95 : Int32)) from q28) rfl ?_
                refine wkP.iloadN 55 dok_54 rfl rfl ?_
                refine wkP.bipush 57 (45 : Int32) dok_55 rfl rfl ?_
                by_cases q29 : c = (45 : Int32)
                · refine wkP.icmpF 60 dok_57 (show ¬ (¬ c = (45 : Int32)) from (fun q => q q29)) rfl ?_
                  refine wkP.iconst 61 (1 : Int32) dok_60 rfl rfl ?_
                  refine wkP.goto 65 dok_61 (by decide) (by decide) ?_
                  exact wkP.retI .boolean [] g.2.1 dok_65 rfl (by simp) rfl (by decide) (by decide) (by simp) ⟨by rw [if_pos (by unfold okc; simp_all)], rfl, rfl⟩
                · refine wkP.icmpT 64 dok_57 (show ¬ c = (45 : Int32) from q29) (by decide) (by decide) ?_
                  refine wkP.iconst 65 (0 : Int32) dok_64 rfl rfl ?_
                  exact wkP.retI .boolean [] g.2.1 dok_65 rfl (by simp) rfl (by decide) (by decide) (by simp) ⟨by rw [if_neg (by unfold okc; simp_all)], rfl, rfl⟩
          · refine wkP.icmpF 40 dok_37 (show ¬ ((122 : Int32) < c) from q26) rfl ?_
            refine wkP.iconst 41 (1 : Int32) dok_40 rfl rfl ?_
            exact wkP.retI .boolean [] g.2.1 dok_41 rfl (by simp) rfl (by decide) (by decide) (by simp) ⟨by rw [if_pos (by unfold okc; simp_all)], rfl, rfl⟩
      · refine wkP.icmpF 20 dok_17 (show ¬ (c < (65 : Int32)) from q21) rfl ?_
        refine wkP.iloadN 21 dok_20 rfl rfl ?_
        refine wkP.bipush 23 (90 : Int32) dok_21 rfl rfl ?_
        by_cases q30 : (90 : Int32) < c
        · refine wkP.icmpT 28 dok_23 (show (90 : Int32) < c from q30) (by decide) (by decide) ?_
          refine wkP.iloadN 29 dok_28 rfl rfl ?_
          refine wkP.bipush 31 (97 : Int32) dok_29 rfl rfl ?_
          by_cases q31 : c < (97 : Int32)
          · refine wkP.icmpT 42 dok_31 (show c < (97 : Int32) from q31) (by decide) (by decide) ?_
            refine wkP.iloadN 43 dok_42 rfl rfl ?_
            refine wkP.bipush 45 (46 : Int32) dok_43 rfl rfl ?_
            by_cases q32 : c = (46 : Int32)
            · refine wkP.icmpT 60 dok_45 (show c = (46 : Int32) from q32) (by decide) (by decide) ?_
              refine wkP.iconst 61 (1 : Int32) dok_60 rfl rfl ?_
              refine wkP.goto 65 dok_61 (by decide) (by decide) ?_
              exact wkP.retI .boolean [] g.2.1 dok_65 rfl (by simp) rfl (by decide) (by decide) (by simp) ⟨by rw [if_pos (by unfold okc; simp_all)], rfl, rfl⟩
            · refine wkP.icmpF 48 dok_45 (show ¬ (c = (46 : Int32)) from q32) rfl ?_
              refine wkP.iloadN 49 dok_48 rfl rfl ?_
              refine wkP.bipush 51 (95 : Int32) dok_49 rfl rfl ?_
              by_cases q33 : c = (95 : Int32)
              · refine wkP.icmpT 60 dok_51 (show c = (95 : Int32) from q33) (by decide) (by decide) ?_
                refine wkP.iconst 61 (1 : Int32) dok_60 rfl rfl ?_
                refine wkP.goto 65 dok_61 (by decide) (by decide) ?_
                exact wkP.retI .boolean [] g.2.1 dok_65 rfl (by simp) rfl (by decide) (by decide) (by simp) ⟨by rw [if_pos (by unfold okc; simp_all)], rfl, rfl⟩
              · refine wkP.icmpF 54 dok_51 (show ¬ (c = (95 : Int32)) from q33) rfl ?_
                refine wkP.iloadN 55 dok_54 rfl rfl ?_
                refine wkP.bipush 57 (45 : Int32) dok_55 rfl rfl ?_
                by_cases q34 : c = (45 : Int32)
                · refine wkP.icmpF 60 dok_57 (show ¬ (¬ c = (45 : Int32)) from (fun q => q q34)) rfl ?_
                  refine wkP.iconst 61 (1 : Int32) dok_60 rfl rfl ?_
                  refine wkP.goto 65 dok_61 (by decide) (by decide) ?_
                  exact wkP.retI .boolean [] g.2.1 dok_65 rfl (by simp) rfl (by decide) (by decide) (by simp) ⟨by rw [if_pos (by unfold okc; simp_all)], rfl, rfl⟩
                · refine wkP.icmpT 64 dok_57 (show ¬ c = (45 : Int32) from q34) (by decide) (by decide) ?_
                  refine wkP.iconst 65 (0 : Int32) dok_64 rfl rfl ?_
                  exact wkP.retI .boolean [] g.2.1 dok_65 rfl (by simp) rfl (by decide) (by decide) (by simp) ⟨by rw [if_neg (by unfold okc; simp_all)], rfl, rfl⟩
          · refine wkP.icmpF 34 dok_31 (show ¬ (c < (97 : Int32)) from q31) rfl ?_
            refine wkP.iloadN 35 dok_34 rfl rfl ?_
            refine wkP.bipush 37 (122 : Int32) dok_35 rfl rfl ?_
            by_cases q35 : (122 : Int32) < c
            · refine wkP.icmpT 42 dok_37 (show (122 : Int32) < c from q35) (by decide) (by decide) ?_
              refine wkP.iloadN 43 dok_42 rfl rfl ?_
              refine wkP.bipush 45 (46 : Int32) dok_43 rfl rfl ?_
              by_cases q36 : c = (46 : Int32)
              · refine wkP.icmpT 60 dok_45 (show c = (46 : Int32) from q36) (by decide) (by decide) ?_
                refine wkP.iconst 61 (1 : Int32) dok_60 rfl rfl ?_
                refine wkP.goto 65 dok_61 (by decide) (by decide) ?_
                exact wkP.retI .boolean [] g.2.1 dok_65 rfl (by simp) rfl (by decide) (by decide) (by simp) ⟨by rw [if_pos (by unfold okc; simp_all)], rfl, rfl⟩
              · refine wkP.icmpF 48 dok_45 (show ¬ (c = (46 : Int32)) from q36) rfl ?_
                refine wkP.iloadN 49 dok_48 rfl rfl ?_
                refine wkP.bipush 51 (95 : Int32) dok_49 rfl rfl ?_
                by_cases q37 : c = (95 : Int32)
                · refine wkP.icmpT 60 dok_51 (show c = (95 : Int32) from q37) (by decide) (by decide) ?_
                  refine wkP.iconst 61 (1 : Int32) dok_60 rfl rfl ?_
                  refine wkP.goto 65 dok_61 (by decide) (by decide) ?_
                  exact wkP.retI .boolean [] g.2.1 dok_65 rfl (by simp) rfl (by decide) (by decide) (by simp) ⟨by rw [if_pos (by unfold okc; simp_all)], rfl, rfl⟩
                · refine wkP.icmpF 54 dok_51 (show ¬ (c = (95 : Int32)) from q37) rfl ?_
                  refine wkP.iloadN 55 dok_54 rfl rfl ?_
                  refine wkP.bipush 57 (45 : Int32) dok_55 rfl rfl ?_
                  by_cases q38 : c = (45 : Int32)
                  · refine wkP.icmpF 60 dok_57 (show ¬ (¬ c = (45 : Int32)) from (fun q => q q38)) rfl ?_
                    refine wkP.iconst 61 (1 : Int32) dok_60 rfl rfl ?_
                    refine wkP.goto 65 dok_61 (by decide) (by decide) ?_
                    exact wkP.retI .boolean [] g.2.1 dok_65 rfl (by simp) rfl (by decide) (by decide) (by simp) ⟨by rw [if_pos (by unfold okc; simp_all)], rfl, rfl⟩
                  · refine wkP.icmpT 64 dok_57 (show ¬ c = (45 : Int32) from q38) (by decide) (by decide) ?_
                    refine wkP.iconst 65 (0 : Int32) dok_64 rfl rfl ?_
                    exact wkP.retI .boolean [] g.2.1 dok_65 rfl (by simp) rfl (by decide) (by decide) (by simp) ⟨by rw [if_neg (by unfold okc; simp_all)], rfl, rfl⟩
            · refine wkP.icmpF 40 dok_37 (show ¬ ((122 : Int32) < c) from q35) rfl ?_
              refine wkP.iconst 41 (1 : Int32) dok_40 rfl rfl ?_
              exact wkP.retI .boolean [] g.2.1 dok_41 rfl (by simp) rfl (by decide) (by decide) (by simp) ⟨by rw [if_pos (by unfold okc; simp_all)], rfl, rfl⟩
        · refine wkP.icmpF 26 dok_23 (show ¬ ((90 : Int32) < c) from q30) rfl ?_
          refine wkP.iconst 27 (1 : Int32) dok_26 rfl rfl ?_
          exact wkP.retI .boolean [] g.2.1 dok_27 rfl (by simp) rfl (by decide) (by decide) (by simp) ⟨by rw [if_pos (by unfold okc; simp_all)], rfl, rfl⟩
    · refine wkP.icmpF 12 dok_9 (show ¬ ((57 : Int32) < c) from q20) rfl ?_
      refine wkP.iconst 13 (1 : Int32) dok_12 rfl rfl ?_
      exact wkP.retI .boolean [] g.2.1 dok_13 rfl (by simp) rfl (by decide) (by decide) (by simp) ⟨by rw [if_pos (by unfold okc; simp_all)], rfl, rfl⟩
abbrev rnc : Room := { frames := 0, cells := 0, slots := 0, locals := 0 }
set_option maxRecDepth 65536 in
set_option maxHeartbeats 4000000 in
theorem M_nc (l : Launch) (Z : State) (a0 : Array Value) (g : G Z a0) (h : Heap) (c : Int32) : wkM l Z bnc rnc #[.int c] h [] (fun v h' os => v = some (.int (if okc c then 1 else 0)) ∧ os = [] ∧ h = h') := by
  refine wkM.of #[.val (.int c)] (plainFor_of_name (by first | (simp [plainName, overriddenIn]; done) | decide +kernel)) (fun m => by first | rfl | (simp [entryFrame, mkF, argsToLocals, Value.category]; done)) ?_
  refine wkP.iloadN 1 dnc_0 rfl rfl ?_
  refine wkP.bipush 3 (65 : Int32) dnc_1 rfl rfl ?_
  by_cases q1 : c < (65 : Int32)
  · refine wkP.icmpT 12 dnc_3 (show c < (65 : Int32) from q1) (by decide) (by decide) ?_
    refine wkP.iloadN 13 dnc_12 rfl rfl ?_
    refine wkP.bipush 15 (97 : Int32) dnc_13 rfl rfl ?_
    by_cases q2 : c < (97 : Int32)
    · refine wkP.icmpT 24 dnc_15 (show c < (97 : Int32) from q2) (by decide) (by decide) ?_
      refine wkP.iloadN 25 dnc_24 rfl rfl ?_
      refine wkP.bipush 27 (48 : Int32) dnc_25 rfl rfl ?_
      by_cases q3 : c < (48 : Int32)
      · refine wkP.icmpT 36 dnc_27 (show c < (48 : Int32) from q3) (by decide) (by decide) ?_
        refine wkP.iloadN 37 dnc_36 rfl rfl ?_
        refine wkP.bipush 39 (46 : Int32) dnc_37 rfl rfl ?_
        by_cases q4 : c = (46 : Int32)
        · refine wkP.icmpT 54 dnc_39 (show c = (46 : Int32) from q4) (by decide) (by decide) ?_
          refine wkP.iconst 55 (1 : Int32) dnc_54 rfl rfl ?_
          refine wkP.goto 59 dnc_55 (by decide) (by decide) ?_
          exact wkP.retI .boolean [] g.2.1 dnc_59 rfl (by simp) rfl (by decide) (by decide) (by simp) ⟨by rw [if_pos (by unfold okc; simp_all)], rfl, rfl⟩
        · refine wkP.icmpF 42 dnc_39 (show ¬ (c = (46 : Int32)) from q4) rfl ?_
          refine wkP.iloadN 43 dnc_42 rfl rfl ?_
          refine wkP.bipush 45 (95 : Int32) dnc_43 rfl rfl ?_
          by_cases q5 : c = (95 : Int32)
          · refine wkP.icmpT 54 dnc_45 (show c = (95 : Int32) from q5) (by decide) (by decide) ?_
            refine wkP.iconst 55 (1 : Int32) dnc_54 rfl rfl ?_
            refine wkP.goto 59 dnc_55 (by decide) (by decide) ?_
            exact wkP.retI .boolean [] g.2.1 dnc_59 rfl (by simp) rfl (by decide) (by decide) (by simp) ⟨by rw [if_pos (by unfold okc; simp_all)], rfl, rfl⟩
          · refine wkP.icmpF 48 dnc_45 (show ¬ (c = (95 : Int32)) from q5) rfl ?_
            refine wkP.iloadN 49 dnc_48 rfl rfl ?_
            refine wkP.bipush 51 (45 : Int32) dnc_49 rfl rfl ?_
            by_cases q6 : c = (45 : Int32)
            · refine wkP.icmpF 54 dnc_51 (show ¬ (¬ c = (45 : Int32)) from (fun q => q q6)) rfl ?_
              refine wkP.iconst 55 (1 : Int32) dnc_54 rfl rfl ?_
              refine wkP.goto 59 dnc_55 (by decide) (by decide) ?_
              exact wkP.retI .boolean [] g.2.1 dnc_59 rfl (by simp) rfl (by decide) (by decide) (by simp) ⟨by rw [if_pos (by unfold okc; simp_all)], rfl, rfl⟩
            · refine wkP.icmpT 58 dnc_51 (show ¬ c = (45 : Int32) from q6) (by decide) (by decide) ?_
              refine wkP.iconst 59 (0 : Int32) dnc_58 rfl rfl ?_
              exact wkP.retI .boolean [] g.2.1 dnc_59 rfl (by simp) rfl (by decide) (by decide) (by simp) ⟨by rw [if_neg (by unfold okc; simp_all)], rfl, rfl⟩
      · refine wkP.icmpF 30 dnc_27 (show ¬ (c < (48 : Int32)) from q3) rfl ?_
        refine wkP.iloadN 31 dnc_30 rfl rfl ?_
        refine wkP.bipush 33 (57 : Int32) dnc_31 rfl rfl ?_
        by_cases q7 : (57 : Int32) < c
        · refine wkP.icmpF 36 dnc_33 (show ¬ (¬ (57 : Int32) < c) from (fun q => q q7)) rfl ?_
          refine wkP.iloadN 37 dnc_36 rfl rfl ?_
          refine wkP.bipush 39 (46 : Int32) dnc_37 rfl rfl ?_
          by_cases q8 : c = (46 : Int32)
          · refine wkP.icmpT 54 dnc_39 (show c = (46 : Int32) from q8) (by decide) (by decide) ?_
            refine wkP.iconst 55 (1 : Int32) dnc_54 rfl rfl ?_
            refine wkP.goto 59 dnc_55 (by decide) (by decide) ?_
            exact wkP.retI .boolean [] g.2.1 dnc_59 rfl (by simp) rfl (by decide) (by decide) (by simp) ⟨by rw [if_pos (by unfold okc; simp_all)], rfl, rfl⟩
          · refine wkP.icmpF 42 dnc_39 (show ¬ (c = (46 : Int32)) from q8) rfl ?_
            refine wkP.iloadN 43 dnc_42 rfl rfl ?_
            refine wkP.bipush 45 (95 : Int32) dnc_43 rfl rfl ?_
            by_cases q9 : c = (95 : Int32)
            · refine wkP.icmpT 54 dnc_45 (show c = (95 : Int32) from q9) (by decide) (by decide) ?_
              refine wkP.iconst 55 (1 : Int32) dnc_54 rfl rfl ?_
              refine wkP.goto 59 dnc_55 (by decide) (by decide) ?_
              exact wkP.retI .boolean [] g.2.1 dnc_59 rfl (by simp) rfl (by decide) (by decide) (by simp) ⟨by rw [if_pos (by unfold okc; simp_all)], rfl, rfl⟩
            · refine wkP.icmpF 48 dnc_45 (show ¬ (c = (95 : Int32)) from q9) rfl ?_
              refine wkP.iloadN 49 dnc_48 rfl rfl ?_
              refine wkP.bipush 51 (45 : Int32) dnc_49 rfl rfl ?_
              by_cases q10 : c = (45 : Int32)
              · refine wkP.icmpF 54 dnc_51 (show ¬ (¬ c = (45 : Int32)) from (fun q => q q10)) rfl ?_
                refine wkP.iconst 55 (1 : Int32) dnc_54 rfl rfl ?_
                refine wkP.goto 59 dnc_55 (by decide) (by decide) ?_
                exact wkP.retI .boolean [] g.2.1 dnc_59 rfl (by simp) rfl (by decide) (by decide) (by simp) ⟨by rw [if_pos (by unfold okc; simp_all)], rfl, rfl⟩
              · refine wkP.icmpT 58 dnc_51 (show ¬ c = (45 : Int32) from q10) (by decide) (by decide) ?_
                refine wkP.iconst 59 (0 : Int32) dnc_58 rfl rfl ?_
                exact wkP.retI .boolean [] g.2.1 dnc_59 rfl (by simp) rfl (by decide) (by decide) (by simp) ⟨by rw [if_neg (by unfold okc; simp_all)], rfl, rfl⟩
        · refine wkP.icmpT 54 dnc_33 (show ¬ (57 : Int32) < c from q7) (by decide) (by decide) ?_
          refine wkP.iconst 55 (1 : Int32) dnc_54 rfl rfl ?_
          refine wkP.goto 59 dnc_55 (by decide) (by decide) ?_
          exact wkP.retI .boolean [] g.2.1 dnc_59 rfl (by simp) rfl (by decide) (by decide) (by simp) ⟨by rw [if_pos (by unfold okc; simp_all)], rfl, rfl⟩
    · refine wkP.icmpF 18 dnc_15 (show ¬ (c < (97 : Int32)) from q2) rfl ?_
      refine wkP.iloadN 19 dnc_18 rfl rfl ?_
      refine wkP.bipush 21 (122 : Int32) dnc_19 rfl rfl ?_
      by_cases q11 : (122 : Int32) < c
      · refine wkP.icmpF 24 dnc_21 (show ¬ (¬ (122 : Int32) < c) from (fun q => q q11)) rfl ?_
        refine wkP.iloadN 25 dnc_24 rfl rfl ?_
        refine wkP.bipush 27 (48 : Int32) dnc_25 rfl rfl ?_
        by_cases q12 : c < (48 : Int32)
        · refine wkP.icmpT 36 dnc_27 (show c < (48 : Int32) from q12) (by decide) (by decide) ?_
          refine wkP.iloadN 37 dnc_36 rfl rfl ?_
          refine wkP.bipush 39 (46 : Int32) dnc_37 rfl rfl ?_
          by_cases q13 : c = (46 : Int32)
          · refine wkP.icmpT 54 dnc_39 (show c = (46 : Int32) from q13) (by decide) (by decide) ?_
            refine wkP.iconst 55 (1 : Int32) dnc_54 rfl rfl ?_
            refine wkP.goto 59 dnc_55 (by decide) (by decide) ?_
            exact wkP.retI .boolean [] g.2.1 dnc_59 rfl (by simp) rfl (by decide) (by decide) (by simp) ⟨by rw [if_pos (by unfold okc; simp_all)], rfl, rfl⟩
          · refine wkP.icmpF 42 dnc_39 (show ¬ (c = (46 : Int32)) from q13) rfl ?_
            refine wkP.iloadN 43 dnc_42 rfl rfl ?_
            refine wkP.bipush 45 (95 : Int32) dnc_43 rfl rfl ?_
            by_cases q14 : c = (95 : Int32)
            · refine wkP.icmpT 54 dnc_45 (show c = (95 : Int32) from q14) (by decide) (by decide) ?_
              refine wkP.iconst 55 (1 : Int32) dnc_54 rfl rfl ?_
              refine wkP.goto 59 dnc_55 (by decide) (by decide) ?_
              exact wkP.retI .boolean [] g.2.1 dnc_59 rfl (by simp) rfl (by decide) (by decide) (by simp) ⟨by rw [if_pos (by unfold okc; simp_all)], rfl, rfl⟩
            · refine wkP.icmpF 48 dnc_45 (show ¬ (c = (95 : Int32)) from q14) rfl ?_
              refine wkP.iloadN 49 dnc_48 rfl rfl ?_
              refine wkP.bipush 51 (45 : Int32) dnc_49 rfl rfl ?_
              by_cases q15 : c = (45 : Int32)
              · refine wkP.icmpF 54 dnc_51 (show ¬ (¬ c = (45 : Int32)) from (fun q => q q15)) rfl ?_
                refine wkP.iconst 55 (1 : Int32) dnc_54 rfl rfl ?_
                refine wkP.goto 59 dnc_55 (by decide) (by decide) ?_
                exact wkP.retI .boolean [] g.2.1 dnc_59 rfl (by simp) rfl (by decide) (by decide) (by simp) ⟨by rw [if_pos (by unfold okc; simp_all)], rfl, rfl⟩
              · refine wkP.icmpT 58 dnc_51 (show ¬ c = (45 : Int32) from q15) (by decide) (by decide) ?_
                refine wkP.iconst 59 (0 : Int32) dnc_58 rfl rfl ?_
                exact wkP.retI .boolean [] g.2.1 dnc_59 rfl (by simp) rfl (by decide) (by decide) (by simp) ⟨by rw [if_neg (by unfold okc; simp_all)], rfl, rfl⟩
        · refine wkP.icmpF 30 dnc_27 (show ¬ (c < (48 : Int32)) from q12) rfl ?_
          refine wkP.iloadN 31 dnc_30 rfl rfl ?_
          refine wkP.bipush 33 (57 : Int32) dnc_31 rfl rfl ?_
          by_cases q16 : (57 : Int32) < c
          · refine wkP.icmpF 36 dnc_33 (show ¬ (¬ (57 : Int32) < c) from (fun q => q q16)) rfl ?_
            refine wkP.iloadN 37 dnc_36 rfl rfl ?_
            refine wkP.bipush 39 (46 : Int32) dnc_37 rfl rfl ?_
            by_cases q17 : c = (46 : Int32)
            · refine wkP.icmpT 54 dnc_39 (show c = (46 : Int32) from q17) (by decide) (by decide) ?_
              refine wkP.iconst 55 (1 : Int32) dnc_54 rfl rfl ?_
              refine wkP.goto 59 dnc_55 (by decide) (by decide) ?_
              exact wkP.retI .boolean [] g.2.1 dnc_59 rfl (by simp) rfl (by decide) (by decide) (by simp) ⟨by rw [if_pos (by unfold okc; simp_all)], rfl, rfl⟩
            · refine wkP.icmpF 42 dnc_39 (show ¬ (c = (46 : Int32)) from q17) rfl ?_
              refine wkP.iloadN 43 dnc_42 rfl rfl ?_
              refine wkP.bipush 45 (95 : Int32) dnc_43 rfl rfl ?_
              by_cases q18 : c = (95 : Int32)
              · refine wkP.icmpT 54 dnc_45 (show c = (95 : Int32) from q18) (by decide) (by decide) ?_
                refine wkP.iconst 55 (1 : Int32) dnc_54 rfl rfl ?_
                refine wkP.goto 59 dnc_55 (by decide) (by decide) ?_
                exact wkP.retI .boolean [] g.2.1 dnc_59 rfl (by simp) rfl (by decide) (by decide) (by simp) ⟨by rw [if_pos (by unfold okc; simp_all)], rfl, rfl⟩
              · refine wkP.icmpF 48 dnc_45 (show ¬ (c = (95 : Int32)) from q18) rfl ?_
                refine wkP.iloadN 49 dnc_48 rfl rfl ?_
                refine wkP.bipush 51 (45 : Int32) dnc_49 rfl rfl ?_
                by_cases q19 : c = (45 : Int32)
                · refine wkP.icmpF 54 dnc_51 (show ¬ (¬ c = (45 : Int32)) from (fun q => q q19)) rfl ?_
                  refine wkP.iconst 55 (1 : Int32) dnc_54 rfl rfl ?_
                  refine wkP.goto 59 dnc_55 (by decide) (by decide) ?_
                  exact wkP.retI .boolean [] g.2.1 dnc_59 rfl (by simp) rfl (by decide) (by decide) (by simp) ⟨by rw [if_pos (by unfold okc; simp_all)], rfl, rfl⟩
                · refine wkP.icmpT 58 dnc_51 (show ¬ c = (45 : Int32) from q19) (by decide) (by decide) ?_
                  refine wkP.iconst 59 (0 : Int32) dnc_58 rfl rfl ?_
                  exact wkP.retI .boolean [] g.2.1 dnc_59 rfl (by simp) rfl (by decide) (by decide) (by simp) ⟨by rw [if_neg (by unfold okc; simp_all)], rfl, rfl⟩
          · refine wkP.icmpT 54 dnc_33 (show ¬ (57 : Int32) < c from q16) (by decide) (by decide) ?_
            refine wkP.iconst 55 (1 : Int32) dnc_54 rfl rfl ?_
            refine wkP.goto 59 dnc_55 (by decide) (by decide) ?_
            exact wkP.retI .boolean [] g.2.1 dnc_59 rfl (by simp) rfl (by decide) (by decide) (by simp) ⟨by rw [if_pos (by unfold okc; simp_all)], rfl, rfl⟩
      · refine wkP.icmpT 54 dnc_21 (show ¬ (122 : Int32) < c from q11) (by decide) (by decide) ?_
        refine wkP.iconst 55 (1 : Int32) dnc_54 rfl rfl ?_
        refine wkP.goto 59 dnc_55 (by decide) (by decide) ?_
        exact wkP.retI .boolean [] g.2.1 dnc_59 rfl (by simp) rfl (by decide) (by decide) (by simp) ⟨by rw [if_pos (by unfold okc; simp_all)], rfl, rfl⟩
  · refine wkP.icmpF 6 dnc_3 (show ¬ (c < (65 : Int32)) from q1) rfl ?_
    refine wkP.iloadN 7 dnc_6 rfl rfl ?_
    refine wkP.bipush 9 (90 : Int32) dnc_7 rfl rfl ?_
    by_cases q20 : (90 : Int32) < c
    · refine wkP.icmpF 12 dnc_9 (show ¬ (¬ (90 : Int32) < c) from (fun q => q q20)) rfl ?_
      refine wkP.iloadN 13 dnc_12 rfl rfl ?_
      refine wkP.bipush 15 (97 : Int32) dnc_13 rfl rfl ?_
      by_cases q21 : c < (97 : Int32)
      · refine wkP.icmpT 24 dnc_15 (show c < (97 : Int32) from q21) (by decide) (by decide) ?_
        refine wkP.iloadN 25 dnc_24 rfl rfl ?_
        refine wkP.bipush 27 (48 : Int32) dnc_25 rfl rfl ?_
        by_cases q22 : c < (48 : Int32)
        · refine wkP.icmpT 36 dnc_27 (show c < (48 : Int32) from q22) (by decide) (by decide) ?_
          refine wkP.iloadN 37 dnc_36 rfl rfl ?_
          refine wkP.bipush 39 (46 : Int32) dnc_37 rfl rfl ?_
          by_cases q23 : c = (46 : Int32)
          · refine wkP.icmpT 54 dnc_39 (show c = (46 : Int32) from q23) (by decide) (by decide) ?_
            refine wkP.iconst 55 (1 : Int32) dnc_54 rfl rfl ?_
            refine wkP.goto 59 dnc_55 (by decide) (by decide) ?_
            exact wkP.retI .boolean [] g.2.1 dnc_59 rfl (by simp) rfl (by decide) (by decide) (by simp) ⟨by rw [if_pos (by unfold okc; simp_all)], rfl, rfl⟩
          · refine wkP.icmpF 42 dnc_39 (show ¬ (c = (46 : Int32)) from q23) rfl ?_
            refine wkP.iloadN 43 dnc_42 rfl rfl ?_
            refine wkP.bipush 45 (95 : Int32) dnc_43 rfl rfl ?_
            by_cases q24 : c = (95 : Int32)
            · refine wkP.icmpT 54 dnc_45 (show c = (95 : Int32) from q24) (by decide) (by decide) ?_
              refine wkP.iconst 55 (1 : Int32) dnc_54 rfl rfl ?_
              refine wkP.goto 59 dnc_55 (by decide) (by decide) ?_
              exact wkP.retI .boolean [] g.2.1 dnc_59 rfl (by simp) rfl (by decide) (by decide) (by simp) ⟨by rw [if_pos (by unfold okc; simp_all)], rfl, rfl⟩
            · refine wkP.icmpF 48 dnc_45 (show ¬ (c = (95 : Int32)) from q24) rfl ?_
              refine wkP.iloadN 49 dnc_48 rfl rfl ?_
              refine wkP.bipush 51 (45 : Int32) dnc_49 rfl rfl ?_
              by_cases q25 : c = (45 : Int32)
              · refine wkP.icmpF 54 dnc_51 (show ¬ (¬ c = (45 : Int32)) from (fun q => q q25)) rfl ?_
                refine wkP.iconst 55 (1 : Int32) dnc_54 rfl rfl ?_
                refine wkP.goto 59 dnc_55 (by decide) (by decide) ?_
                exact wkP.retI .boolean [] g.2.1 dnc_59 rfl (by simp) rfl (by decide) (by decide) (by simp) ⟨by rw [if_pos (by unfold okc; simp_all)], rfl, rfl⟩
              · refine wkP.icmpT 58 dnc_51 (show ¬ c = (45 : Int32) from q25) (by decide) (by decide) ?_
                refine wkP.iconst 59 (0 : Int32) dnc_58 rfl rfl ?_
                exact wkP.retI .boolean [] g.2.1 dnc_59 rfl (by simp) rfl (by decide) (by decide) (by simp) ⟨by rw [if_neg (by unfold okc; simp_all)], rfl, rfl⟩
        · refine wkP.icmpF 30 dnc_27 (show ¬ (c < (48 : Int32)) from q22) rfl ?_
          refine wkP.iloadN 31 dnc_30 rfl rfl ?_
          refine wkP.bipush 33 (57 : Int32) dnc_31 rfl rfl ?_
          by_cases q26 : (57 : Int32) < c
          · refine wkP.icmpF 36 dnc_33 (show ¬ (¬ (57 : Int32) < c) from (fun q => q q26)) rfl ?_
            refine wkP.iloadN 37 dnc_36 rfl rfl ?_
            refine wkP.bipush 39 (46 : Int32) dnc_37 rfl rfl ?_
            by_cases q27 : c = (46 : Int32)
            · refine wkP.icmpT 54 dnc_39 (show c = (46 : Int32) from q27) (by decide) (by decide) ?_
              refine wkP.iconst 55 (1 : Int32) dnc_54 rfl rfl ?_
              refine wkP.goto 59 dnc_55 (by decide) (by decide) ?_
              exact wkP.retI .boolean [] g.2.1 dnc_59 rfl (by simp) rfl (by decide) (by decide) (by simp) ⟨by rw [if_pos (by unfold okc; simp_all)], rfl, rfl⟩
            · refine wkP.icmpF 42 dnc_39 (show ¬ (c = (46 : Int32)) from q27) rfl ?_
              refine wkP.iloadN 43 dnc_42 rfl rfl ?_
              refine wkP.bipush 45 (95 : Int32) dnc_43 rfl rfl ?_
              by_cases q28 : c = (95 : Int32)
              · refine wkP.icmpT 54 dnc_45 (show c = (95 : Int32) from q28) (by decide) (by decide) ?_
                refine wkP.iconst 55 (1 : Int32) dnc_54 rfl rfl ?_
                refine wkP.goto 59 dnc_55 (by decide) (by decide) ?_
                exact wkP.retI .boolean [] g.2.1 dnc_59 rfl (by simp) rfl (by decide) (by decide) (by simp) ⟨by rw [if_pos (by unfold okc; simp_all)], rfl, rfl⟩
              · refine wkP.icmpF 48 dnc_45 (show ¬ (c = (95 : Int32)) from q28) rfl ?_
                refine wkP.iloadN 49 dnc_48 rfl rfl ?_
                refine wkP.bipush 51 (45 : Int32) dnc_49 rfl rfl ?_
                by_cases q29 : c = (45 : Int32)
                · refine wkP.icmpF 54 dnc_51 (show ¬ (¬ c = (45 : Int32)) from (fun q => q q29)) rfl ?_
                  refine wkP.iconst 55 (1 : Int32) dnc_54 rfl rfl ?_
                  refine wkP.goto 59 dnc_55 (by decide) (by decide) ?_
                  exact wkP.retI .boolean [] g.2.1 dnc_59 rfl (by simp) rfl (by decide) (by decide) (by simp) ⟨by rw [if_pos (by unfold okc; simp_all)], rfl, rfl⟩
                · refine wkP.icmpT 58 dnc_51 (show ¬ c = (45 : Int32) from q29) (by decide) (by decide) ?_
                  refine wkP.iconst 59 (0 : Int32) dnc_58 rfl rfl ?_
                  exact wkP.retI .boolean [] g.2.1 dnc_59 rfl (by simp) rfl (by decide) (by decide) (by simp) ⟨by rw [if_neg (by unfold okc; simp_all)], rfl, rfl⟩
          · refine wkP.icmpT 54 dnc_33 (show ¬ (57 : Int32) < c from q26) (by decide) (by decide) ?_
            refine wkP.iconst 55 (1 : Int32) dnc_54 rfl rfl ?_
            refine wkP.goto 59 dnc_55 (by decide) (by decide) ?_
            exact wkP.retI .boolean [] g.2.1 dnc_59 rfl (by simp) rfl (by decide) (by decide) (by simp) ⟨by rw [if_pos (by unfold okc; simp_all)], rfl, rfl⟩
      · refine wkP.icmpF 18 dnc_15 (show ¬ (c < (97 : Int32)) from q21) rfl ?_
        refine wkP.iloadN 19 dnc_18 rfl rfl ?_
        refine wkP.bipush 21 (122 : Int32) dnc_19 rfl rfl ?_
        by_cases q30 : (122 : Int32) < c
        · refine wkP.icmpF 24 dnc_21 (show ¬ (¬ (122 : Int32) < c) from (fun q => q q30)) rfl ?_
          refine wkP.iloadN 25 dnc_24 rfl rfl ?_
          refine wkP.bipush 27 (48 : Int32) dnc_25 rfl rfl ?_
          by_cases q31 : c < (48 : Int32)
          · refine wkP.icmpT 36 dnc_27 (show c < (48 : Int32) from q31) (by decide) (by decide) ?_
            refine wkP.iloadN 37 dnc_36 rfl rfl ?_
            refine wkP.bipush 39 (46 : Int32) dnc_37 rfl rfl ?_
            by_cases q32 : c = (46 : Int32)
            · refine wkP.icmpT 54 dnc_39 (show c = (46 : Int32) from q32) (by decide) (by decide) ?_
              refine wkP.iconst 55 (1 : Int32) dnc_54 rfl rfl ?_
              refine wkP.goto 59 dnc_55 (by decide) (by decide) ?_
              exact wkP.retI .boolean [] g.2.1 dnc_59 rfl (by simp) rfl (by decide) (by decide) (by simp) ⟨by rw [if_pos (by unfold okc; simp_all)], rfl, rfl⟩
            · refine wkP.icmpF 42 dnc_39 (show ¬ (c = (46 : Int32)) from q32) rfl ?_
              refine wkP.iloadN 43 dnc_42 rfl rfl ?_
              refine wkP.bipush 45 (95 : Int32) dnc_43 rfl rfl ?_
              by_cases q33 : c = (95 : Int32)
              · refine wkP.icmpT 54 dnc_45 (show c = (95 : Int32) from q33) (by decide) (by decide) ?_
                refine wkP.iconst 55 (1 : Int32) dnc_54 rfl rfl ?_
                refine wkP.goto 59 dnc_55 (by decide) (by decide) ?_
                exact wkP.retI .boolean [] g.2.1 dnc_59 rfl (by simp) rfl (by decide) (by decide) (by simp) ⟨by rw [if_pos (by unfold okc; simp_all)], rfl, rfl⟩
              · refine wkP.icmpF 48 dnc_45 (show ¬ (c = (95 : Int32)) from q33) rfl ?_
                refine wkP.iloadN 49 dnc_48 rfl rfl ?_
                refine wkP.bipush 51 (45 : Int32) dnc_49 rfl rfl ?_
                by_cases q34 : c = (45 : Int32)
                · refine wkP.icmpF 54 dnc_51 (show ¬ (¬ c = (45 : Int32)) from (fun q => q q34)) rfl ?_
                  refine wkP.iconst 55 (1 : Int32) dnc_54 rfl rfl ?_
                  refine wkP.goto 59 dnc_55 (by decide) (by decide) ?_
                  exact wkP.retI .boolean [] g.2.1 dnc_59 rfl (by simp) rfl (by decide) (by decide) (by simp) ⟨by rw [if_pos (by unfold okc; simp_all)], rfl, rfl⟩
                · refine wkP.icmpT 58 dnc_51 (show ¬ c = (45 : Int32) from q34) (by decide) (by decide) ?_
                  refine wkP.iconst 59 (0 : Int32) dnc_58 rfl rfl ?_
                  exact wkP.retI .boolean [] g.2.1 dnc_59 rfl (by simp) rfl (by decide) (by decide) (by simp) ⟨by rw [if_neg (by unfold okc; simp_all)], rfl, rfl⟩
          · refine wkP.icmpF 30 dnc_27 (show ¬ (c < (48 : Int32)) from q31) rfl ?_
            refine wkP.iloadN 31 dnc_30 rfl rfl ?_
            refine wkP.bipush 33 (57 : Int32) dnc_31 rfl rfl ?_
            by_cases q35 : (57 : Int32) < c
            · refine wkP.icmpF 36 dnc_33 (show ¬ (¬ (57 : Int32) < c) from (fun q => q q35)) rfl ?_
              refine wkP.iloadN 37 dnc_36 rfl rfl ?_
              refine wkP.bipush 39 (46 : Int32) dnc_37 rfl rfl ?_
              by_cases q36 : c = (46 : Int32)
              · refine wkP.icmpT 54 dnc_39 (show c = (46 : Int32) from q36) (by decide) (by decide) ?_
                refine wkP.iconst 55 (1 : Int32) dnc_54 rfl rfl ?_
                refine wkP.goto 59 dnc_55 (by decide) (by decide) ?_
                exact wkP.retI .boolean [] g.2.1 dnc_59 rfl (by simp) rfl (by decide) (by decide) (by simp) ⟨by rw [if_pos (by unfold okc; simp_all)], rfl, rfl⟩
              · refine wkP.icmpF 42 dnc_39 (show ¬ (c = (46 : Int32)) from q36) rfl ?_
                refine wkP.iloadN 43 dnc_42 rfl rfl ?_
                refine wkP.bipush 45 (95 : Int32) dnc_43 rfl rfl ?_
                by_cases q37 : c = (95 : Int32)
                · refine wkP.icmpT 54 dnc_45 (show c = (95 : Int32) from q37) (by decide) (by decide) ?_
                  refine wkP.iconst 55 (1 : Int32) dnc_54 rfl rfl ?_
                  refine wkP.goto 59 dnc_55 (by decide) (by decide) ?_
                  exact wkP.retI .boolean [] g.2.1 dnc_59 rfl (by simp) rfl (by decide) (by decide) (by simp) ⟨by rw [if_pos (by unfold okc; simp_all)], rfl, rfl⟩
                · refine wkP.icmpF 48 dnc_45 (show ¬ (c = (95 : Int32)) from q37) rfl ?_
                  refine wkP.iloadN 49 dnc_48 rfl rfl ?_
                  refine wkP.bipush 51 (45 : Int32) dnc_49 rfl rfl ?_
                  by_cases q38 : c = (45 : Int32)
                  · refine wkP.icmpF 54 dnc_51 (show ¬ (¬ c = (45 : Int32)) from (fun q => q q38)) rfl ?_
                    refine wkP.iconst 55 (1 : Int32) dnc_54 rfl rfl ?_
                    refine wkP.goto 59 dnc_55 (by decide) (by decide) ?_
                    exact wkP.retI .boolean [] g.2.1 dnc_59 rfl (by simp) rfl (by decide) (by decide) (by simp) ⟨by rw [if_pos (by unfold okc; simp_all)], rfl, rfl⟩
                  · refine wkP.icmpT 58 dnc_51 (show ¬ c = (45 : Int32) from q38) (by decide) (by decide) ?_
                    refine wkP.iconst 59 (0 : Int32) dnc_58 rfl rfl ?_
                    exact wkP.retI .boolean [] g.2.1 dnc_59 rfl (by simp) rfl (by decide) (by decide) (by simp) ⟨by rw [if_neg (by unfold okc; simp_all)], rfl, rfl⟩
            · refine wkP.icmpT 54 dnc_33 (show ¬ (57 : Int32) < c from q35) (by decide) (by decide) ?_
              refine wkP.iconst 55 (1 : Int32) dnc_54 rfl rfl ?_
              refine wkP.goto 59 dnc_55 (by decide) (by decide) ?_
              exact wkP.retI .boolean [] g.2.1 dnc_59 rfl (by simp) rfl (by decide) (by decide) (by simp) ⟨by rw [if_pos (by unfold okc; simp_all)], rfl, rfl⟩
        · refine wkP.icmpT 54 dnc_21 (show ¬ (122 : Int32) < c from q30) (by decide) (by decide) ?_
          refine wkP.iconst 55 (1 : Int32) dnc_54 rfl rfl ?_
          refine wkP.goto 59 dnc_55 (by decide) (by decide) ?_
          exact wkP.retI .boolean [] g.2.1 dnc_59 rfl (by simp) rfl (by decide) (by decide) (by simp) ⟨by rw [if_pos (by unfold okc; simp_all)], rfl, rfl⟩
    · refine wkP.icmpT 54 dnc_9 (show ¬ (90 : Int32) < c from q20) (by decide) (by decide) ?_
      refine wkP.iconst 55 (1 : Int32) dnc_54 rfl rfl ?_
      refine wkP.goto 59 dnc_55 (by decide) (by decide) ?_
      exact wkP.retI .boolean [] g.2.1 dnc_59 rfl (by simp) rfl (by decide) (by decide) (by simp) ⟨by rw [if_pos (by unfold okc; simp_all)], rfl, rfl⟩
abbrev risN : Room := { frames := 5, cells := 0, slots := 0, locals := 66 }
set_option maxRecDepth 65536 in
set_option maxHeartbeats 4000000 in
theorem L_isN (l : Launch) (Z : State) (a0 : Array Value) (g : G Z a0) (hs h : Heap) (a b : Addr) (cs : List Int32) (F : St Z h a b cs) (hne : cs ≠ []) (hcap : cs.length ≤ 4) : ∀ (r i : Nat), i + r = cs.length → (∀ j, j < i → ∀ c, cs[j]? = some c → okc c) →
    wkP l Z bisN risN hs [] (fun v h' os => v = some (.int (if nm cs then 1 else 0)) ∧ os = [] ∧ h = h') [] h 0 0 21 #[.val (.ref a), .val (.int (Int32.ofNat i))] [] := by
  have hl31 := F.len
  intro r
  induction r with
  | zero =>
    intro i hir hj
    have hi31 : i < 2 ^ 31 := by omega
    refine wkP.iloadN 22 disN_21 rfl rfl ?_
    refine wkP.aloadN 23 disN_22 rfl rfl rfl ?_
    refine wkP.callV 26 (M_len l Z a0 g _ a b cs F) [] [(.int (Int32.ofNat i))] 1 g.2.1 F.exa (wkNFs (w51 g.1)) (w48 g.1) (w49 g.1) (w51 g.1) (w50 g.1) (w4 g.1) (w52 g.1) (by decide) disN_23 (lenOf pd14 rfl) rfl rfl rfl (by simp) (Nat.le_of_eq rfl) (by decide) (by decide) (by decide) (by decide) rfl ?_
    rintro v58 _ o58 ⟨rfl, rfl, rfl⟩ K58
    refine wkP.icmpT 48 disN_26 (show ¬ (Int32.ofNat i) < (Int32.ofNat cs.length) from (by rw [ofNat_lt hi31 hl31]; omega)) (by decide) (by decide) ?_
    refine wkP.iconst 49 (1 : Int32) disN_48 rfl rfl ?_
    exact wkP.retI .boolean [] g.2.1 disN_49 rfl (by simp) rfl (by decide) (by decide) (by simp) ⟨by rw [if_pos ⟨hne, fun c hc => by obtain ⟨j, hjl, rfl⟩ := List.getElem_of_mem hc; exact hj j (by omega) _ (List.getElem?_eq_getElem hjl)⟩], rfl, rfl⟩
  | succ r ih =>
    intro i hir hj
    have hi31 : i < 2 ^ 31 := by omega
    refine wkP.iloadN 22 disN_21 rfl rfl ?_
    refine wkP.aloadN 23 disN_22 rfl rfl rfl ?_
    refine wkP.callV 26 (M_len l Z a0 g _ a b cs F) [] [(.int (Int32.ofNat i))] 1 g.2.1 F.exa (wkNFs (w51 g.1)) (w48 g.1) (w49 g.1) (w51 g.1) (w50 g.1) (w4 g.1) (w52 g.1) (by decide) disN_23 (lenOf pd14 rfl) rfl rfl rfl (by simp) (Nat.le_of_eq rfl) (by decide) (by decide) (by decide) (by decide) rfl ?_
    rintro v59 _ o59 ⟨rfl, rfl, rfl⟩ K59
    refine wkP.icmpF 29 disN_26 (show ¬ (¬ (Int32.ofNat i) < (Int32.ofNat cs.length)) from (fun q => q ((ofNat_lt hi31 hl31).mpr (by omega)))) rfl ?_
    refine wkP.aloadN 30 disN_29 rfl rfl rfl ?_
    refine wkP.iloadN 31 disN_30 rfl rfl ?_
    obtain ⟨c, hc⟩ : ∃ c, cs[i]? = some c := ⟨_, List.getElem?_eq_getElem (show i < cs.length by omega)⟩
    refine wkP.callV 34 (M_chAt l Z a0 g _ a b cs F i c hc (F.ch c (List.mem_of_getElem? hc))) [(.int (Int32.ofNat i))] [] 0 g.2.1 F.exa (wkNFs (w61 g.1)) (w58 g.1) (w59 g.1) (w61 g.1) (w60 g.1) (w4 g.1) (w62 g.1) (by decide) disN_31 (lenOf pd15 rfl) rfl rfl rfl (by simp) (Nat.le_of_eq rfl) (by decide) (by decide) (by decide) (by decide) rfl ?_
    rintro v60 _ o60 ⟨rfl, rfl, rfl⟩ K60
    refine wkP.callS 37 (M_nc l Z a0 g _ c) [(.int c)] [] 0 g.2.1 (w80 g.1) (w81 g.1) (w26 g.1) (w82 g.1) (by decide) disN_34 (lenOf pd16 rfl) rfl rfl rfl (by simp) (Nat.le_of_eq rfl) (by decide) (by decide) (by decide) (by decide) rfl ?_
    rintro v61 _ o61 ⟨rfl, rfl, rfl⟩ K61
    by_cases hq : okc c
    · refine wkP.ifT 42 disN_37 (show ¬ (if okc c then 1 else 0) = (0 : Int32) from (by rw [if_pos hq]; decide)) (by decide) (by decide) ?_
      refine wkP.iinc 45 (Int32.ofNat (i + 1)) #[.val (.ref a), .val (.int (Int32.ofNat (i + 1)))] disN_42 rfl (inc1 i) rfl rfl ?_
      refine wkP.goto 21 disN_45 (by decide) (by decide) ?_
      refine ih (i + 1) (by omega) ?_
      intro j hj1 d hd
      by_cases hji : j = i
      · subst hji; rw [hc] at hd; cases hd; exact hq
      · exact hj j (by omega) d hd
    · refine wkP.ifF 40 disN_37 (show ¬ (¬ (if okc c then 1 else 0) = (0 : Int32)) from (by rw [if_neg hq]; decide)) rfl ?_
      refine wkP.iconst 41 (0 : Int32) disN_40 rfl rfl ?_
      exact wkP.retI .boolean [] g.2.1 disN_41 rfl (by simp) rfl (by decide) (by decide) (by simp) ⟨by rw [if_neg (fun q => hq (q.2 c (List.mem_of_getElem? hc)))], rfl, rfl⟩
set_option maxRecDepth 65536 in
set_option maxHeartbeats 4000000 in
theorem M_isN (l : Launch) (Z : State) (a0 : Array Value) (g : G Z a0) (h : Heap) (a b : Addr) (cs : List Int32) (F : St Z h a b cs) (hcap : cs.length ≤ 4) : wkM l Z bisN risN #[.ref a] h [] (fun v h' os => v = some (.int (if nm cs then 1 else 0)) ∧ os = [] ∧ h = h') := by
  refine wkM.of #[.val (.ref a), .unset] (plainFor_of_name (by first | (simp [plainName, overriddenIn]; done) | decide +kernel)) (fun m => by first | rfl | (simp [entryFrame, mkF, argsToLocals, Value.category]; done)) ?_
  refine wkP.aloadN 1 disN_0 rfl rfl rfl ?_
  refine wkP.callV 4 (M_isEmp l Z a0 g _ a b cs F) [] [] 0 g.2.1 F.exa (wkNFs (w31 g.1)) (w28 g.1) (w29 g.1) (w31 g.1) (w30 g.1) (w4 g.1) (w32 g.1) (by decide) disN_1 (lenOf pd13 rfl) rfl rfl rfl (by simp) (Nat.le_of_eq rfl) (by decide) (by decide) (by decide) (by decide) rfl ?_
  rintro v62 _ o62 ⟨rfl, rfl, rfl⟩ K62
  by_cases hne : cs = []
  · refine wkP.ifT 17 disN_4 (show ¬ (if cs = [] then 1 else 0) = (0 : Int32) from (by rw [if_pos hne]; decide)) (by decide) (by decide) ?_
    refine wkP.iconst 18 (0 : Int32) disN_17 rfl rfl ?_
    exact wkP.retI .boolean [] g.2.1 disN_18 rfl (by simp) rfl (by decide) (by decide) (by simp) ⟨by rw [if_neg (fun q => q.1 hne)], rfl, rfl⟩
  · refine wkP.ifF 7 disN_4 (show ¬ (¬ (if cs = [] then 1 else 0) = (0 : Int32)) from (by rw [if_neg hne]; decide)) rfl ?_
    refine wkP.aloadN 8 disN_7 rfl rfl rfl ?_
    refine wkP.callV 11 (M_len l Z a0 g _ a b cs F) [] [] 0 g.2.1 F.exa (wkNFs (w51 g.1)) (w48 g.1) (w49 g.1) (w51 g.1) (w50 g.1) (w4 g.1) (w52 g.1) (by decide) disN_8 (lenOf pd14 rfl) rfl rfl rfl (by simp) (Nat.le_of_eq rfl) (by decide) (by decide) (by decide) (by decide) rfl ?_
    rintro v63 _ o63 ⟨rfl, rfl, rfl⟩ K63
    refine wkP.sipush 14 (255 : Int32) disN_11 rfl rfl ?_
    refine wkP.icmpT 19 disN_14 (show ¬ (255 : Int32) < (Int32.ofNat cs.length) from (by rw [Int32.lt_iff_toInt_lt, toI F.len]; simp only [Int32.reduceToInt]; omega)) (by decide) (by decide) ?_
    refine wkP.iconst 20 (0 : Int32) disN_19 rfl rfl ?_
    refine wkP.istoreN 21 #[.val (.ref a), .val (.int (0 : Int32))] disN_20 rfl rfl ?_
    exact L_isN l Z a0 g _ _ a b cs F hne hcap cs.length 0 (by omega) (fun j hj => absurd hj (by omega))
theorem mask16 (x : Int32) : ∃ z, (x &&& 65535).toUInt32.toUInt16.toUInt32.toInt32 = z ∧ ¬ z < 0 ∧ ¬ 65535 < z := by
  refine ⟨_, rfl, ?_⟩
  have h := c_i2c (x &&& 65535)
  simp only [Int32.lt_iff_toInt_lt, Int32.reduceToInt]
  omega
theorem rem5 (x : Int32) : ∃ z : Int32, (x &&& 2147483647) % 5 = z ∧ 0 ≤ z.toInt ∧ z.toInt < 5 := by
  refine ⟨_, rfl, ?_⟩
  have h := c_mask x 2147483647 31 (by decide) (by decide)
  have h2 := c_irem (x &&& 2147483647) 5 5 (by decide)
  omega
set_option maxRecDepth 65536 in
set_option maxHeartbeats 4000000 in
theorem T_law (l : Launch) (Z : State) (a0 : Array Value) (g : G Z a0) (hs h : Heap) (ws : List Addr) (i0 i1 i2 i3 i4 n c0 c1 c2 c3 e : Int32) (s t : Addr) (cs : List Int32) (F : St Z h s t cs) (hcap : cs.length ≤ 4) (he : e = if nm cs then 1 else 0) : wkP l Z blaw room_1 hs [] (fun v h' os => v = some (.int 1)) ws h 12 200 245 #[.val (.int i0), .val (.int i1), .val (.int i2), .val (.int i3), .val (.int i4), .val (.int n), .val (.int c0), .val (.int c1), .val (.int c2), .val (.int c3), .val (.ref s), .val (.int e)] [] := by
  refine wkP.aload 247 at_245 rfl rfl rfl ?_
  refine wkP.callS 250 (M_isN l Z a0 g _ s t cs F hcap) [(.ref s)] [] 0 g.2.1 (w24 g.1) (w25 g.1) (w26 g.1) (w27 g.1) (by decide) at_247 (lenOf pd17 rfl) rfl rfl rfl (by simp) (Nat.le_of_eq rfl) (by decide) (by decide) (by decide) (by decide) rfl ?_
  rintro v64 _ o64 ⟨rfl, rfl, rfl⟩ K64
  refine wkP.iload 252 at_250 rfl rfl ?_
  refine wkP.icmpF 255 at_252 (show ¬ (¬ (if nm cs then 1 else 0) = e) from (fun q => q he.symm)) rfl ?_
  refine wkP.iconst 256 (1 : Int32) at_255 rfl rfl ?_
  refine wkP.goto 260 at_256 (by decide) (by decide) ?_
  exact wkP.retI .boolean [] g.2.1 at_260 rfl (by simp) rfl (by decide) (by decide) (by simp) rfl
set_option maxRecDepth 65536 in
set_option maxHeartbeats 4000000 in
theorem M_law (l : Launch) (Z : State) (a0 : Array Value) (g : G Z a0) (h : Heap) (i0 i1 i2 i3 i4 : Int32) : wkM l Z blaw room_1 #[.int i0, .int i1, .int i2, .int i3, .int i4] h [] (fun v h' os => v = some (.int 1)) := by
  refine wkM.of #[.val (.int i0), .val (.int i1), .val (.int i2), .val (.int i3), .val (.int i4), .unset, .unset, .unset, .unset, .unset, .unset, .unset] (plainFor_of_name (by first | (simp [plainName, overriddenIn]; done) | decide +kernel)) (fun m => by first | rfl | (simp [entryFrame, mkF, argsToLocals, Value.category]; done)) ?_
  obtain ⟨n, hn, hn0, hn5⟩ := rem5 i0
  obtain ⟨c0, hc0, hk0⟩ := mask16 i1
  obtain ⟨c1, hc1, hk1⟩ := mask16 i2
  obtain ⟨c2, hc2, hk2⟩ := mask16 i3
  obtain ⟨c3, hc3, hk3⟩ := mask16 i4
  refine wkP.iloadN 1 at_0 rfl rfl ?_
  refine wkP.ldcI 3 (w0 g.1) at_1 rfl ?_
  refine wkP.iand 4 (i0 &&& (2147483647 : Int32)) at_3 rfl rfl ?_
  refine wkP.iconst 5 (5 : Int32) at_4 rfl rfl ?_
  refine wkP.irem 6 n at_5 (by decide) hn rfl ?_
  refine wkP.istore 8 #[.val (.int i0), .val (.int i1), .val (.int i2), .val (.int i3), .val (.int i4), .val (.int n), .unset, .unset, .unset, .unset, .unset, .unset] at_6 rfl rfl ?_
  refine wkP.iloadN 9 at_8 rfl rfl ?_
  refine wkP.ldcI 11 (w1 g.1) at_9 rfl ?_
  refine wkP.iand 12 (i1 &&& (65535 : Int32)) at_11 rfl rfl ?_
  refine wkP.i2c 13 c0 at_12 hc0 rfl ?_
  refine wkP.istore 15 #[.val (.int i0), .val (.int i1), .val (.int i2), .val (.int i3), .val (.int i4), .val (.int n), .val (.int c0), .unset, .unset, .unset, .unset, .unset] at_13 rfl rfl ?_
  refine wkP.iloadN 16 at_15 rfl rfl ?_
  refine wkP.ldcI 18 (w1 g.1) at_16 rfl ?_
  refine wkP.iand 19 (i2 &&& (65535 : Int32)) at_18 rfl rfl ?_
  refine wkP.i2c 20 c1 at_19 hc1 rfl ?_
  refine wkP.istore 22 #[.val (.int i0), .val (.int i1), .val (.int i2), .val (.int i3), .val (.int i4), .val (.int n), .val (.int c0), .val (.int c1), .unset, .unset, .unset, .unset] at_20 rfl rfl ?_
  refine wkP.iloadN 23 at_22 rfl rfl ?_
  refine wkP.ldcI 25 (w1 g.1) at_23 rfl ?_
  refine wkP.iand 26 (i3 &&& (65535 : Int32)) at_25 rfl rfl ?_
  refine wkP.i2c 27 c2 at_26 hc2 rfl ?_
  refine wkP.istore 29 #[.val (.int i0), .val (.int i1), .val (.int i2), .val (.int i3), .val (.int i4), .val (.int n), .val (.int c0), .val (.int c1), .val (.int c2), .unset, .unset, .unset] at_27 rfl rfl ?_
  refine wkP.iload 31 at_29 rfl rfl ?_
  refine wkP.ldcI 33 (w1 g.1) at_31 rfl ?_
  refine wkP.iand 34 (i4 &&& (65535 : Int32)) at_33 rfl rfl ?_
  refine wkP.i2c 35 c3 at_34 hc3 rfl ?_
  refine wkP.istore 37 #[.val (.int i0), .val (.int i1), .val (.int i2), .val (.int i3), .val (.int i4), .val (.int n), .val (.int c0), .val (.int c1), .val (.int c2), .val (.int c3), .unset, .unset] at_35 rfl rfl ?_
  refine wkP.iload 39 at_37 rfl rfl ?_
  by_cases hn_0 : n = (0 : Int32)
  · refine wkP.ifF 42 at_39 (show ¬ (¬ n = (0 : Int32)) from (fun q => q hn_0)) rfl ?_
    subst hn_0
    refine wkP.newO 45 (w2 g.1) (w3 g.1) (w4 g.1) at_42 (by decide) (by decide) rfl ?_
    intro h65 a65 g65 l65 K65 E65 D65 U65
    have z65 := K65.1
    have F66 := D65 (Or.inr (w19 g.1)) (ty := .byte) (by decide)
    have F67 := D65 (Or.inr (w18 g.1)) (ty := (.array .byte)) (by decide)
    refine wkP.dup 46 at_45 rfl rfl ?_
    refine wkP.iconst 47 (0 : Int32) at_46 rfl rfl ?_
    refine wkP.newP 49 .char 0 0 (w5 g.1) rfl rfl rfl at_47 rfl (by decide) (by decide) (by decide) (by decide) rfl ?_
    intro h68 a68 g68 l68 K68 A68
    have z68 := K68.1
    replace A68 : Ia Z h68 a68 .char [] := A68
    have hch : chs [] := by
      intro c hc
      simp only [List.mem_cons, List.not_mem_nil, or_false] at hc
    have E65_69 := (E65.keep K68)
    have F66_70 := (F66.keep K68 nn0)
    have F67_71 := (F67.keep K68 nn0)
    refine wkP.callI 52 (M_init1 l Z a0 g _ a65 a68 [] A68 hch (by simp) _ _ E65_69 F66_70 F67_71) [(.ref a68)] [(.ref a65)] 1 g.2.1 (w6 g.1) (w7 g.1) (w4 g.1) (w8 g.1) rfl rfl (by decide) at_49 (lenOf pd18 rfl) rfl rfl rfl (by simp) (Nat.le_of_eq rfl) (by decide) (by decide) (by decide) (by decide) rfl ?_
    rintro v72 h72 o72 ⟨d72, rfl, rfl, H72⟩ K72
    have z72 := K72.1
    refine wkP.astore 54 #[.val (.int i0), .val (.int i1), .val (.int i2), .val (.int i3), .val (.int i4), .val (.int (0 : Int32)), .val (.int c0), .val (.int c1), .val (.int c2), .val (.int c3), .val (.ref a65), .unset] at_52 rfl rfl rfl ?_
    refine wkP.goto 182 at_54 (by decide) (by decide) ?_
    refine wkP.iload 184 at_182 rfl rfl ?_
    refine wkP.iconst 185 (1 : Int32) at_184 rfl rfl ?_
    refine wkP.icmpT 242 at_185 (show (0 : Int32) < (1 : Int32) from (by decide)) (by decide) (by decide) ?_
    refine wkP.iconst 243 (0 : Int32) at_242 rfl rfl ?_
    refine wkP.istore 245 #[.val (.int i0), .val (.int i1), .val (.int i2), .val (.int i3), .val (.int i4), .val (.int (0 : Int32)), .val (.int c0), .val (.int c1), .val (.int c2), .val (.int c3), .val (.ref a65), .val (.int (0 : Int32))] at_243 rfl rfl ?_
    refine wkP.more (k1 := 12) (n1 := 200) (by decide) (by decide) ?_
    exact T_law l Z a0 g _ _ _ _ _ _ _ _ _ _ _ _ _ _ _ _ _ H72 (by simp) (by rw [if_neg (by unfold nm; simp_all)])
  · refine wkP.ifT 57 at_39 (show ¬ n = (0 : Int32) from hn_0) (by decide) (by decide) ?_
    refine wkP.iload 59 at_57 rfl rfl ?_
    refine wkP.iconst 60 (1 : Int32) at_59 rfl rfl ?_
    by_cases hn_1 : n = (1 : Int32)
    · refine wkP.icmpF 63 at_60 (show ¬ (¬ n = (1 : Int32)) from (fun q => q hn_1)) rfl ?_
      subst hn_1
      refine wkP.newO 66 (w2 g.1) (w3 g.1) (w4 g.1) at_63 (by decide) (by decide) rfl ?_
      intro h73 a73 g73 l73 K73 E73 D73 U73
      have z73 := K73.1
      have F74 := D73 (Or.inr (w19 g.1)) (ty := .byte) (by decide)
      have F75 := D73 (Or.inr (w18 g.1)) (ty := (.array .byte)) (by decide)
      refine wkP.dup 67 at_66 rfl rfl ?_
      refine wkP.iconst 68 (1 : Int32) at_67 rfl rfl ?_
      refine wkP.newP 70 .char 1 1 (w5 g.1) rfl rfl rfl at_68 rfl (by decide) (by decide) (by decide) (by decide) rfl ?_
      intro h76 a76 g76 l76 K76 A76
      have z76 := K76.1
      replace A76 : Ia Z h76 a76 .char [(0 : Int32)] := A76
      refine wkP.dup 71 at_70 rfl rfl ?_
      refine wkP.iconst 72 (0 : Int32) at_71 rfl rfl ?_
      refine wkP.iload 74 at_72 rfl rfl ?_
      refine wkP.stC 75 0 c0 A76 at_74 rfl (by simp) (nar_c hk0) (by simp) rfl ?_
      intro h77 K77 A77
      have z77 := K77.1
      replace A77 : Ia Z h77 a76 .char [c0] := A77
      have hch : chs [c0] := by
        intro c hc
        simp only [List.mem_cons, List.not_mem_nil, or_false] at hc
        rcases hc with rfl
        · exact hk0
      have E73_78 := ((E73.keep K76).keep K77)
      have F74_79 := ((F74.keep K76 nn0).keep K77 (nnS (by omega) nn0))
      have F75_80 := ((F75.keep K76 nn0).keep K77 (nnS (by omega) nn0))
      refine wkP.callI 78 (M_init1 l Z a0 g _ a73 a76 [c0] A77 hch (by simp) _ _ E73_78 F74_79 F75_80) [(.ref a76)] [(.ref a73)] 1 g.2.1 (w6 g.1) (w7 g.1) (w4 g.1) (w8 g.1) rfl rfl (by decide) at_75 (lenOf pd18 rfl) rfl rfl rfl (by simp) (Nat.le_of_eq rfl) (by decide) (by decide) (by decide) (by decide) rfl ?_
      rintro v81 h81 o81 ⟨d81, rfl, rfl, H81⟩ K81
      have z81 := K81.1
      refine wkP.astore 80 #[.val (.int i0), .val (.int i1), .val (.int i2), .val (.int i3), .val (.int i4), .val (.int (1 : Int32)), .val (.int c0), .val (.int c1), .val (.int c2), .val (.int c3), .val (.ref a73), .unset] at_78 rfl rfl rfl ?_
      refine wkP.goto 182 at_80 (by decide) (by decide) ?_
      refine wkP.iload 184 at_182 rfl rfl ?_
      refine wkP.iconst 185 (1 : Int32) at_184 rfl rfl ?_
      refine wkP.icmpF 188 at_185 (show ¬ ((1 : Int32) < (1 : Int32)) from (by decide)) rfl ?_
      refine wkP.iload 190 at_188 rfl rfl ?_
      refine wkP.callS 193 (M_ok l Z a0 g _ c0) [(.int c0)] [] 0 g.2.1 (w44 g.1) (w45 g.1) (w46 g.1) (w47 g.1) (by decide) at_190 (lenOf pd16 rfl) rfl rfl rfl (by simp) (Nat.le_of_eq rfl) (by decide) (by decide) (by decide) (by decide) rfl ?_
      rintro v82 _ o82 ⟨rfl, rfl, rfl⟩ K82
      by_cases ho0 : okc c0
      · refine wkP.ifF 196 at_193 (show ¬ ((if okc c0 then 1 else 0) = (0 : Int32)) from (by rw [if_pos ho0]; decide)) rfl ?_
        refine wkP.iload 198 at_196 rfl rfl ?_
        refine wkP.iconst 199 (2 : Int32) at_198 rfl rfl ?_
        refine wkP.icmpT 210 at_199 (show (1 : Int32) < (2 : Int32) from (by decide)) (by decide) (by decide) ?_
        refine wkP.iload 212 at_210 rfl rfl ?_
        refine wkP.iconst 213 (3 : Int32) at_212 rfl rfl ?_
        refine wkP.icmpT 224 at_213 (show (1 : Int32) < (3 : Int32) from (by decide)) (by decide) (by decide) ?_
        refine wkP.iload 226 at_224 rfl rfl ?_
        refine wkP.iconst 227 (4 : Int32) at_226 rfl rfl ?_
        refine wkP.icmpT 238 at_227 (show (1 : Int32) < (4 : Int32) from (by decide)) (by decide) (by decide) ?_
        refine wkP.iconst 239 (1 : Int32) at_238 rfl rfl ?_
        refine wkP.goto 243 at_239 (by decide) (by decide) ?_
        refine wkP.istore 245 #[.val (.int i0), .val (.int i1), .val (.int i2), .val (.int i3), .val (.int i4), .val (.int (1 : Int32)), .val (.int c0), .val (.int c1), .val (.int c2), .val (.int c3), .val (.ref a73), .val (.int (1 : Int32))] at_243 rfl rfl ?_
        refine wkP.more (k1 := 12) (n1 := 200) (by decide) (by decide) ?_
        exact T_law l Z a0 g _ _ _ _ _ _ _ _ _ _ _ _ _ _ _ _ _ H81 (by simp) (by rw [if_pos (by unfold nm; simp_all)])
      · refine wkP.ifT 242 at_193 (show (if okc c0 then 1 else 0) = (0 : Int32) from (by rw [if_neg ho0])) (by decide) (by decide) ?_
        refine wkP.iconst 243 (0 : Int32) at_242 rfl rfl ?_
        refine wkP.istore 245 #[.val (.int i0), .val (.int i1), .val (.int i2), .val (.int i3), .val (.int i4), .val (.int (1 : Int32)), .val (.int c0), .val (.int c1), .val (.int c2), .val (.int c3), .val (.ref a73), .val (.int (0 : Int32))] at_243 rfl rfl ?_
        refine wkP.more (k1 := 12) (n1 := 200) (by decide) (by decide) ?_
        exact T_law l Z a0 g _ _ _ _ _ _ _ _ _ _ _ _ _ _ _ _ _ H81 (by simp) (by rw [if_neg (by unfold nm; simp_all)])
    · refine wkP.icmpT 83 at_60 (show ¬ n = (1 : Int32) from hn_1) (by decide) (by decide) ?_
      refine wkP.iload 85 at_83 rfl rfl ?_
      refine wkP.iconst 86 (2 : Int32) at_85 rfl rfl ?_
      by_cases hn_2 : n = (2 : Int32)
      · refine wkP.icmpF 89 at_86 (show ¬ (¬ n = (2 : Int32)) from (fun q => q hn_2)) rfl ?_
        subst hn_2
        refine wkP.newO 92 (w2 g.1) (w3 g.1) (w4 g.1) at_89 (by decide) (by decide) rfl ?_
        intro h83 a83 g83 l83 K83 E83 D83 U83
        have z83 := K83.1
        have F84 := D83 (Or.inr (w19 g.1)) (ty := .byte) (by decide)
        have F85 := D83 (Or.inr (w18 g.1)) (ty := (.array .byte)) (by decide)
        refine wkP.dup 93 at_92 rfl rfl ?_
        refine wkP.iconst 94 (2 : Int32) at_93 rfl rfl ?_
        refine wkP.newP 96 .char 2 2 (w5 g.1) rfl rfl rfl at_94 rfl (by decide) (by decide) (by decide) (by decide) rfl ?_
        intro h86 a86 g86 l86 K86 A86
        have z86 := K86.1
        replace A86 : Ia Z h86 a86 .char [(0 : Int32), (0 : Int32)] := A86
        refine wkP.dup 97 at_96 rfl rfl ?_
        refine wkP.iconst 98 (0 : Int32) at_97 rfl rfl ?_
        refine wkP.iload 100 at_98 rfl rfl ?_
        refine wkP.stC 101 0 c0 A86 at_100 rfl (by simp) (nar_c hk0) (by simp) rfl ?_
        intro h87 K87 A87
        have z87 := K87.1
        replace A87 : Ia Z h87 a86 .char [c0, (0 : Int32)] := A87
        refine wkP.dup 102 at_101 rfl rfl ?_
        refine wkP.iconst 103 (1 : Int32) at_102 rfl rfl ?_
        refine wkP.iload 105 at_103 rfl rfl ?_
        refine wkP.stC 106 1 c1 A87 at_105 rfl (by simp) (nar_c hk1) (by simp) rfl ?_
        intro h88 K88 A88
        have z88 := K88.1
        replace A88 : Ia Z h88 a86 .char [c0, c1] := A88
        have hch : chs [c0, c1] := by
          intro c hc
          simp only [List.mem_cons, List.not_mem_nil, or_false] at hc
          rcases hc with rfl | rfl
          · exact hk0
          · exact hk1
        have E83_89 := (((E83.keep K86).keep K87).keep K88)
        have F84_90 := (((F84.keep K86 nn0).keep K87 (nnS (by omega) nn0)).keep K88 (nnS (by omega) nn0))
        have F85_91 := (((F85.keep K86 nn0).keep K87 (nnS (by omega) nn0)).keep K88 (nnS (by omega) nn0))
        refine wkP.callI 109 (M_init1 l Z a0 g _ a83 a86 [c0, c1] A88 hch (by simp) _ _ E83_89 F84_90 F85_91) [(.ref a86)] [(.ref a83)] 1 g.2.1 (w6 g.1) (w7 g.1) (w4 g.1) (w8 g.1) rfl rfl (by decide) at_106 (lenOf pd18 rfl) rfl rfl rfl (by simp) (Nat.le_of_eq rfl) (by decide) (by decide) (by decide) (by decide) rfl ?_
        rintro v92 h92 o92 ⟨d92, rfl, rfl, H92⟩ K92
        have z92 := K92.1
        refine wkP.astore 111 #[.val (.int i0), .val (.int i1), .val (.int i2), .val (.int i3), .val (.int i4), .val (.int (2 : Int32)), .val (.int c0), .val (.int c1), .val (.int c2), .val (.int c3), .val (.ref a83), .unset] at_109 rfl rfl rfl ?_
        refine wkP.goto 182 at_111 (by decide) (by decide) ?_
        refine wkP.iload 184 at_182 rfl rfl ?_
        refine wkP.iconst 185 (1 : Int32) at_184 rfl rfl ?_
        refine wkP.icmpF 188 at_185 (show ¬ ((2 : Int32) < (1 : Int32)) from (by decide)) rfl ?_
        refine wkP.iload 190 at_188 rfl rfl ?_
        refine wkP.callS 193 (M_ok l Z a0 g _ c0) [(.int c0)] [] 0 g.2.1 (w44 g.1) (w45 g.1) (w46 g.1) (w47 g.1) (by decide) at_190 (lenOf pd16 rfl) rfl rfl rfl (by simp) (Nat.le_of_eq rfl) (by decide) (by decide) (by decide) (by decide) rfl ?_
        rintro v93 _ o93 ⟨rfl, rfl, rfl⟩ K93
        by_cases ho0 : okc c0
        · refine wkP.ifF 196 at_193 (show ¬ ((if okc c0 then 1 else 0) = (0 : Int32)) from (by rw [if_pos ho0]; decide)) rfl ?_
          refine wkP.iload 198 at_196 rfl rfl ?_
          refine wkP.iconst 199 (2 : Int32) at_198 rfl rfl ?_
          refine wkP.icmpF 202 at_199 (show ¬ ((2 : Int32) < (2 : Int32)) from (by decide)) rfl ?_
          refine wkP.iload 204 at_202 rfl rfl ?_
          refine wkP.callS 207 (M_ok l Z a0 g _ c1) [(.int c1)] [] 0 g.2.1 (w44 g.1) (w45 g.1) (w46 g.1) (w47 g.1) (by decide) at_204 (lenOf pd16 rfl) rfl rfl rfl (by simp) (Nat.le_of_eq rfl) (by decide) (by decide) (by decide) (by decide) rfl ?_
          rintro v94 _ o94 ⟨rfl, rfl, rfl⟩ K94
          by_cases ho1 : okc c1
          · refine wkP.ifF 210 at_207 (show ¬ ((if okc c1 then 1 else 0) = (0 : Int32)) from (by rw [if_pos ho1]; decide)) rfl ?_
            refine wkP.iload 212 at_210 rfl rfl ?_
            refine wkP.iconst 213 (3 : Int32) at_212 rfl rfl ?_
            refine wkP.icmpT 224 at_213 (show (2 : Int32) < (3 : Int32) from (by decide)) (by decide) (by decide) ?_
            refine wkP.iload 226 at_224 rfl rfl ?_
            refine wkP.iconst 227 (4 : Int32) at_226 rfl rfl ?_
            refine wkP.icmpT 238 at_227 (show (2 : Int32) < (4 : Int32) from (by decide)) (by decide) (by decide) ?_
            refine wkP.iconst 239 (1 : Int32) at_238 rfl rfl ?_
            refine wkP.goto 243 at_239 (by decide) (by decide) ?_
            refine wkP.istore 245 #[.val (.int i0), .val (.int i1), .val (.int i2), .val (.int i3), .val (.int i4), .val (.int (2 : Int32)), .val (.int c0), .val (.int c1), .val (.int c2), .val (.int c3), .val (.ref a83), .val (.int (1 : Int32))] at_243 rfl rfl ?_
            refine wkP.more (k1 := 12) (n1 := 200) (by decide) (by decide) ?_
            exact T_law l Z a0 g _ _ _ _ _ _ _ _ _ _ _ _ _ _ _ _ _ H92 (by simp) (by rw [if_pos (by unfold nm; simp_all)])
          · refine wkP.ifT 242 at_207 (show (if okc c1 then 1 else 0) = (0 : Int32) from (by rw [if_neg ho1])) (by decide) (by decide) ?_
            refine wkP.iconst 243 (0 : Int32) at_242 rfl rfl ?_
            refine wkP.istore 245 #[.val (.int i0), .val (.int i1), .val (.int i2), .val (.int i3), .val (.int i4), .val (.int (2 : Int32)), .val (.int c0), .val (.int c1), .val (.int c2), .val (.int c3), .val (.ref a83), .val (.int (0 : Int32))] at_243 rfl rfl ?_
            refine wkP.more (k1 := 12) (n1 := 200) (by decide) (by decide) ?_
            exact T_law l Z a0 g _ _ _ _ _ _ _ _ _ _ _ _ _ _ _ _ _ H92 (by simp) (by rw [if_neg (by unfold nm; simp_all)])
        · refine wkP.ifT 242 at_193 (show (if okc c0 then 1 else 0) = (0 : Int32) from (by rw [if_neg ho0])) (by decide) (by decide) ?_
          refine wkP.iconst 243 (0 : Int32) at_242 rfl rfl ?_
          refine wkP.istore 245 #[.val (.int i0), .val (.int i1), .val (.int i2), .val (.int i3), .val (.int i4), .val (.int (2 : Int32)), .val (.int c0), .val (.int c1), .val (.int c2), .val (.int c3), .val (.ref a83), .val (.int (0 : Int32))] at_243 rfl rfl ?_
          refine wkP.more (k1 := 12) (n1 := 200) (by decide) (by decide) ?_
          exact T_law l Z a0 g _ _ _ _ _ _ _ _ _ _ _ _ _ _ _ _ _ H92 (by simp) (by rw [if_neg (by unfold nm; simp_all)])
      · refine wkP.icmpT 114 at_86 (show ¬ n = (2 : Int32) from hn_2) (by decide) (by decide) ?_
        refine wkP.iload 116 at_114 rfl rfl ?_
        refine wkP.iconst 117 (3 : Int32) at_116 rfl rfl ?_
        by_cases hn_3 : n = (3 : Int32)
        · refine wkP.icmpF 120 at_117 (show ¬ (¬ n = (3 : Int32)) from (fun q => q hn_3)) rfl ?_
          subst hn_3
          refine wkP.newO 123 (w2 g.1) (w3 g.1) (w4 g.1) at_120 (by decide) (by decide) rfl ?_
          intro h95 a95 g95 l95 K95 E95 D95 U95
          have z95 := K95.1
          have F96 := D95 (Or.inr (w19 g.1)) (ty := .byte) (by decide)
          have F97 := D95 (Or.inr (w18 g.1)) (ty := (.array .byte)) (by decide)
          refine wkP.dup 124 at_123 rfl rfl ?_
          refine wkP.iconst 125 (3 : Int32) at_124 rfl rfl ?_
          refine wkP.newP 127 .char 3 3 (w5 g.1) rfl rfl rfl at_125 rfl (by decide) (by decide) (by decide) (by decide) rfl ?_
          intro h98 a98 g98 l98 K98 A98
          have z98 := K98.1
          replace A98 : Ia Z h98 a98 .char [(0 : Int32), (0 : Int32), (0 : Int32)] := A98
          refine wkP.dup 128 at_127 rfl rfl ?_
          refine wkP.iconst 129 (0 : Int32) at_128 rfl rfl ?_
          refine wkP.iload 131 at_129 rfl rfl ?_
          refine wkP.stC 132 0 c0 A98 at_131 rfl (by simp) (nar_c hk0) (by simp) rfl ?_
          intro h99 K99 A99
          have z99 := K99.1
          replace A99 : Ia Z h99 a98 .char [c0, (0 : Int32), (0 : Int32)] := A99
          refine wkP.dup 133 at_132 rfl rfl ?_
          refine wkP.iconst 134 (1 : Int32) at_133 rfl rfl ?_
          refine wkP.iload 136 at_134 rfl rfl ?_
          refine wkP.stC 137 1 c1 A99 at_136 rfl (by simp) (nar_c hk1) (by simp) rfl ?_
          intro h100 K100 A100
          have z100 := K100.1
          replace A100 : Ia Z h100 a98 .char [c0, c1, (0 : Int32)] := A100
          refine wkP.dup 138 at_137 rfl rfl ?_
          refine wkP.iconst 139 (2 : Int32) at_138 rfl rfl ?_
          refine wkP.iload 141 at_139 rfl rfl ?_
          refine wkP.stC 142 2 c2 A100 at_141 rfl (by simp) (nar_c hk2) (by simp) rfl ?_
          intro h101 K101 A101
          have z101 := K101.1
          replace A101 : Ia Z h101 a98 .char [c0, c1, c2] := A101
          have hch : chs [c0, c1, c2] := by
            intro c hc
            simp only [List.mem_cons, List.not_mem_nil, or_false] at hc
            rcases hc with rfl | rfl | rfl
            · exact hk0
            · exact hk1
            · exact hk2
          have E95_102 := ((((E95.keep K98).keep K99).keep K100).keep K101)
          have F96_103 := ((((F96.keep K98 nn0).keep K99 (nnS (by omega) nn0)).keep K100 (nnS (by omega) nn0)).keep K101 (nnS (by omega) nn0))
          have F97_104 := ((((F97.keep K98 nn0).keep K99 (nnS (by omega) nn0)).keep K100 (nnS (by omega) nn0)).keep K101 (nnS (by omega) nn0))
          refine wkP.callI 145 (M_init1 l Z a0 g _ a95 a98 [c0, c1, c2] A101 hch (by simp) _ _ E95_102 F96_103 F97_104) [(.ref a98)] [(.ref a95)] 1 g.2.1 (w6 g.1) (w7 g.1) (w4 g.1) (w8 g.1) rfl rfl (by decide) at_142 (lenOf pd18 rfl) rfl rfl rfl (by simp) (Nat.le_of_eq rfl) (by decide) (by decide) (by decide) (by decide) rfl ?_
          rintro v105 h105 o105 ⟨d105, rfl, rfl, H105⟩ K105
          have z105 := K105.1
          refine wkP.astore 147 #[.val (.int i0), .val (.int i1), .val (.int i2), .val (.int i3), .val (.int i4), .val (.int (3 : Int32)), .val (.int c0), .val (.int c1), .val (.int c2), .val (.int c3), .val (.ref a95), .unset] at_145 rfl rfl rfl ?_
          refine wkP.goto 182 at_147 (by decide) (by decide) ?_
          refine wkP.iload 184 at_182 rfl rfl ?_
          refine wkP.iconst 185 (1 : Int32) at_184 rfl rfl ?_
          refine wkP.icmpF 188 at_185 (show ¬ ((3 : Int32) < (1 : Int32)) from (by decide)) rfl ?_
          refine wkP.iload 190 at_188 rfl rfl ?_
          refine wkP.callS 193 (M_ok l Z a0 g _ c0) [(.int c0)] [] 0 g.2.1 (w44 g.1) (w45 g.1) (w46 g.1) (w47 g.1) (by decide) at_190 (lenOf pd16 rfl) rfl rfl rfl (by simp) (Nat.le_of_eq rfl) (by decide) (by decide) (by decide) (by decide) rfl ?_
          rintro v106 _ o106 ⟨rfl, rfl, rfl⟩ K106
          by_cases ho0 : okc c0
          · refine wkP.ifF 196 at_193 (show ¬ ((if okc c0 then 1 else 0) = (0 : Int32)) from (by rw [if_pos ho0]; decide)) rfl ?_
            refine wkP.iload 198 at_196 rfl rfl ?_
            refine wkP.iconst 199 (2 : Int32) at_198 rfl rfl ?_
            refine wkP.icmpF 202 at_199 (show ¬ ((3 : Int32) < (2 : Int32)) from (by decide)) rfl ?_
            refine wkP.iload 204 at_202 rfl rfl ?_
            refine wkP.callS 207 (M_ok l Z a0 g _ c1) [(.int c1)] [] 0 g.2.1 (w44 g.1) (w45 g.1) (w46 g.1) (w47 g.1) (by decide) at_204 (lenOf pd16 rfl) rfl rfl rfl (by simp) (Nat.le_of_eq rfl) (by decide) (by decide) (by decide) (by decide) rfl ?_
            rintro v107 _ o107 ⟨rfl, rfl, rfl⟩ K107
            by_cases ho1 : okc c1
            · refine wkP.ifF 210 at_207 (show ¬ ((if okc c1 then 1 else 0) = (0 : Int32)) from (by rw [if_pos ho1]; decide)) rfl ?_
              refine wkP.iload 212 at_210 rfl rfl ?_
              refine wkP.iconst 213 (3 : Int32) at_212 rfl rfl ?_
              refine wkP.icmpF 216 at_213 (show ¬ ((3 : Int32) < (3 : Int32)) from (by decide)) rfl ?_
              refine wkP.iload 218 at_216 rfl rfl ?_
              refine wkP.callS 221 (M_ok l Z a0 g _ c2) [(.int c2)] [] 0 g.2.1 (w44 g.1) (w45 g.1) (w46 g.1) (w47 g.1) (by decide) at_218 (lenOf pd16 rfl) rfl rfl rfl (by simp) (Nat.le_of_eq rfl) (by decide) (by decide) (by decide) (by decide) rfl ?_
              rintro v108 _ o108 ⟨rfl, rfl, rfl⟩ K108
              by_cases ho2 : okc c2
              · refine wkP.ifF 224 at_221 (show ¬ ((if okc c2 then 1 else 0) = (0 : Int32)) from (by rw [if_pos ho2]; decide)) rfl ?_
                refine wkP.iload 226 at_224 rfl rfl ?_
                refine wkP.iconst 227 (4 : Int32) at_226 rfl rfl ?_
                refine wkP.icmpT 238 at_227 (show (3 : Int32) < (4 : Int32) from (by decide)) (by decide) (by decide) ?_
                refine wkP.iconst 239 (1 : Int32) at_238 rfl rfl ?_
                refine wkP.goto 243 at_239 (by decide) (by decide) ?_
                refine wkP.istore 245 #[.val (.int i0), .val (.int i1), .val (.int i2), .val (.int i3), .val (.int i4), .val (.int (3 : Int32)), .val (.int c0), .val (.int c1), .val (.int c2), .val (.int c3), .val (.ref a95), .val (.int (1 : Int32))] at_243 rfl rfl ?_
                refine wkP.more (k1 := 12) (n1 := 200) (by decide) (by decide) ?_
                exact T_law l Z a0 g _ _ _ _ _ _ _ _ _ _ _ _ _ _ _ _ _ H105 (by simp) (by rw [if_pos (by unfold nm; simp_all)])
              · refine wkP.ifT 242 at_221 (show (if okc c2 then 1 else 0) = (0 : Int32) from (by rw [if_neg ho2])) (by decide) (by decide) ?_
                refine wkP.iconst 243 (0 : Int32) at_242 rfl rfl ?_
                refine wkP.istore 245 #[.val (.int i0), .val (.int i1), .val (.int i2), .val (.int i3), .val (.int i4), .val (.int (3 : Int32)), .val (.int c0), .val (.int c1), .val (.int c2), .val (.int c3), .val (.ref a95), .val (.int (0 : Int32))] at_243 rfl rfl ?_
                refine wkP.more (k1 := 12) (n1 := 200) (by decide) (by decide) ?_
                exact T_law l Z a0 g _ _ _ _ _ _ _ _ _ _ _ _ _ _ _ _ _ H105 (by simp) (by rw [if_neg (by unfold nm; simp_all)])
            · refine wkP.ifT 242 at_207 (show (if okc c1 then 1 else 0) = (0 : Int32) from (by rw [if_neg ho1])) (by decide) (by decide) ?_
              refine wkP.iconst 243 (0 : Int32) at_242 rfl rfl ?_
              refine wkP.istore 245 #[.val (.int i0), .val (.int i1), .val (.int i2), .val (.int i3), .val (.int i4), .val (.int (3 : Int32)), .val (.int c0), .val (.int c1), .val (.int c2), .val (.int c3), .val (.ref a95), .val (.int (0 : Int32))] at_243 rfl rfl ?_
              refine wkP.more (k1 := 12) (n1 := 200) (by decide) (by decide) ?_
              exact T_law l Z a0 g _ _ _ _ _ _ _ _ _ _ _ _ _ _ _ _ _ H105 (by simp) (by rw [if_neg (by unfold nm; simp_all)])
          · refine wkP.ifT 242 at_193 (show (if okc c0 then 1 else 0) = (0 : Int32) from (by rw [if_neg ho0])) (by decide) (by decide) ?_
            refine wkP.iconst 243 (0 : Int32) at_242 rfl rfl ?_
            refine wkP.istore 245 #[.val (.int i0), .val (.int i1), .val (.int i2), .val (.int i3), .val (.int i4), .val (.int (3 : Int32)), .val (.int c0), .val (.int c1), .val (.int c2), .val (.int c3), .val (.ref a95), .val (.int (0 : Int32))] at_243 rfl rfl ?_
            refine wkP.more (k1 := 12) (n1 := 200) (by decide) (by decide) ?_
            exact T_law l Z a0 g _ _ _ _ _ _ _ _ _ _ _ _ _ _ _ _ _ H105 (by simp) (by rw [if_neg (by unfold nm; simp_all)])
        · refine wkP.icmpT 150 at_117 (show ¬ n = (3 : Int32) from hn_3) (by decide) (by decide) ?_
          obtain rfl : n = 4 := by
            rw [← Int32.toInt_inj] at *
            simp only [Int32.reduceToInt] at *; omega
          refine wkP.newO 153 (w2 g.1) (w3 g.1) (w4 g.1) at_150 (by decide) (by decide) rfl ?_
          intro h109 a109 g109 l109 K109 E109 D109 U109
          have z109 := K109.1
          have F110 := D109 (Or.inr (w19 g.1)) (ty := .byte) (by decide)
          have F111 := D109 (Or.inr (w18 g.1)) (ty := (.array .byte)) (by decide)
          refine wkP.dup 154 at_153 rfl rfl ?_
          refine wkP.iconst 155 (4 : Int32) at_154 rfl rfl ?_
          refine wkP.newP 157 .char 4 4 (w5 g.1) rfl rfl rfl at_155 rfl (by decide) (by decide) (by decide) (by decide) rfl ?_
          intro h112 a112 g112 l112 K112 A112
          have z112 := K112.1
          replace A112 : Ia Z h112 a112 .char [(0 : Int32), (0 : Int32), (0 : Int32), (0 : Int32)] := A112
          refine wkP.dup 158 at_157 rfl rfl ?_
          refine wkP.iconst 159 (0 : Int32) at_158 rfl rfl ?_
          refine wkP.iload 161 at_159 rfl rfl ?_
          refine wkP.stC 162 0 c0 A112 at_161 rfl (by simp) (nar_c hk0) (by simp) rfl ?_
          intro h113 K113 A113
          have z113 := K113.1
          replace A113 : Ia Z h113 a112 .char [c0, (0 : Int32), (0 : Int32), (0 : Int32)] := A113
          refine wkP.dup 163 at_162 rfl rfl ?_
          refine wkP.iconst 164 (1 : Int32) at_163 rfl rfl ?_
          refine wkP.iload 166 at_164 rfl rfl ?_
          refine wkP.stC 167 1 c1 A113 at_166 rfl (by simp) (nar_c hk1) (by simp) rfl ?_
          intro h114 K114 A114
          have z114 := K114.1
          replace A114 : Ia Z h114 a112 .char [c0, c1, (0 : Int32), (0 : Int32)] := A114
          refine wkP.dup 168 at_167 rfl rfl ?_
          refine wkP.iconst 169 (2 : Int32) at_168 rfl rfl ?_
          refine wkP.iload 171 at_169 rfl rfl ?_
          refine wkP.stC 172 2 c2 A114 at_171 rfl (by simp) (nar_c hk2) (by simp) rfl ?_
          intro h115 K115 A115
          have z115 := K115.1
          replace A115 : Ia Z h115 a112 .char [c0, c1, c2, (0 : Int32)] := A115
          refine wkP.dup 173 at_172 rfl rfl ?_
          refine wkP.iconst 174 (3 : Int32) at_173 rfl rfl ?_
          refine wkP.iload 176 at_174 rfl rfl ?_
          refine wkP.stC 177 3 c3 A115 at_176 rfl (by simp) (nar_c hk3) (by simp) rfl ?_
          intro h116 K116 A116
          have z116 := K116.1
          replace A116 : Ia Z h116 a112 .char [c0, c1, c2, c3] := A116
          have hch : chs [c0, c1, c2, c3] := by
            intro c hc
            simp only [List.mem_cons, List.not_mem_nil, or_false] at hc
            rcases hc with rfl | rfl | rfl | rfl
            · exact hk0
            · exact hk1
            · exact hk2
            · exact hk3
          have E109_117 := (((((E109.keep K112).keep K113).keep K114).keep K115).keep K116)
          have F110_118 := (((((F110.keep K112 nn0).keep K113 (nnS (by omega) nn0)).keep K114 (nnS (by omega) nn0)).keep K115 (nnS (by omega) nn0)).keep K116 (nnS (by omega) nn0))
          have F111_119 := (((((F111.keep K112 nn0).keep K113 (nnS (by omega) nn0)).keep K114 (nnS (by omega) nn0)).keep K115 (nnS (by omega) nn0)).keep K116 (nnS (by omega) nn0))
          refine wkP.callI 180 (M_init1 l Z a0 g _ a109 a112 [c0, c1, c2, c3] A116 hch (by simp) _ _ E109_117 F110_118 F111_119) [(.ref a112)] [(.ref a109)] 1 g.2.1 (w6 g.1) (w7 g.1) (w4 g.1) (w8 g.1) rfl rfl (by decide) at_177 (lenOf pd18 rfl) rfl rfl rfl (by simp) (Nat.le_of_eq rfl) (by decide) (by decide) (by decide) (by decide) rfl ?_
          rintro v120 h120 o120 ⟨d120, rfl, rfl, H120⟩ K120
          have z120 := K120.1
          refine wkP.astore 182 #[.val (.int i0), .val (.int i1), .val (.int i2), .val (.int i3), .val (.int i4), .val (.int (4 : Int32)), .val (.int c0), .val (.int c1), .val (.int c2), .val (.int c3), .val (.ref a109), .unset] at_180 rfl rfl rfl ?_
          refine wkP.iload 184 at_182 rfl rfl ?_
          refine wkP.iconst 185 (1 : Int32) at_184 rfl rfl ?_
          refine wkP.icmpF 188 at_185 (show ¬ ((4 : Int32) < (1 : Int32)) from (by decide)) rfl ?_
          refine wkP.iload 190 at_188 rfl rfl ?_
          refine wkP.callS 193 (M_ok l Z a0 g _ c0) [(.int c0)] [] 0 g.2.1 (w44 g.1) (w45 g.1) (w46 g.1) (w47 g.1) (by decide) at_190 (lenOf pd16 rfl) rfl rfl rfl (by simp) (Nat.le_of_eq rfl) (by decide) (by decide) (by decide) (by decide) rfl ?_
          rintro v121 _ o121 ⟨rfl, rfl, rfl⟩ K121
          by_cases ho0 : okc c0
          · refine wkP.ifF 196 at_193 (show ¬ ((if okc c0 then 1 else 0) = (0 : Int32)) from (by rw [if_pos ho0]; decide)) rfl ?_
            refine wkP.iload 198 at_196 rfl rfl ?_
            refine wkP.iconst 199 (2 : Int32) at_198 rfl rfl ?_
            refine wkP.icmpF 202 at_199 (show ¬ ((4 : Int32) < (2 : Int32)) from (by decide)) rfl ?_
            refine wkP.iload 204 at_202 rfl rfl ?_
            refine wkP.callS 207 (M_ok l Z a0 g _ c1) [(.int c1)] [] 0 g.2.1 (w44 g.1) (w45 g.1) (w46 g.1) (w47 g.1) (by decide) at_204 (lenOf pd16 rfl) rfl rfl rfl (by simp) (Nat.le_of_eq rfl) (by decide) (by decide) (by decide) (by decide) rfl ?_
            rintro v122 _ o122 ⟨rfl, rfl, rfl⟩ K122
            by_cases ho1 : okc c1
            · refine wkP.ifF 210 at_207 (show ¬ ((if okc c1 then 1 else 0) = (0 : Int32)) from (by rw [if_pos ho1]; decide)) rfl ?_
              refine wkP.iload 212 at_210 rfl rfl ?_
              refine wkP.iconst 213 (3 : Int32) at_212 rfl rfl ?_
              refine wkP.icmpF 216 at_213 (show ¬ ((4 : Int32) < (3 : Int32)) from (by decide)) rfl ?_
              refine wkP.iload 218 at_216 rfl rfl ?_
              refine wkP.callS 221 (M_ok l Z a0 g _ c2) [(.int c2)] [] 0 g.2.1 (w44 g.1) (w45 g.1) (w46 g.1) (w47 g.1) (by decide) at_218 (lenOf pd16 rfl) rfl rfl rfl (by simp) (Nat.le_of_eq rfl) (by decide) (by decide) (by decide) (by decide) rfl ?_
              rintro v123 _ o123 ⟨rfl, rfl, rfl⟩ K123
              by_cases ho2 : okc c2
              · refine wkP.ifF 224 at_221 (show ¬ ((if okc c2 then 1 else 0) = (0 : Int32)) from (by rw [if_pos ho2]; decide)) rfl ?_
                refine wkP.iload 226 at_224 rfl rfl ?_
                refine wkP.iconst 227 (4 : Int32) at_226 rfl rfl ?_
                refine wkP.icmpF 230 at_227 (show ¬ ((4 : Int32) < (4 : Int32)) from (by decide)) rfl ?_
                refine wkP.iload 232 at_230 rfl rfl ?_
                refine wkP.callS 235 (M_ok l Z a0 g _ c3) [(.int c3)] [] 0 g.2.1 (w44 g.1) (w45 g.1) (w46 g.1) (w47 g.1) (by decide) at_232 (lenOf pd16 rfl) rfl rfl rfl (by simp) (Nat.le_of_eq rfl) (by decide) (by decide) (by decide) (by decide) rfl ?_
                rintro v124 _ o124 ⟨rfl, rfl, rfl⟩ K124
                by_cases ho3 : okc c3
                · refine wkP.ifF 238 at_235 (show ¬ ((if okc c3 then 1 else 0) = (0 : Int32)) from (by rw [if_pos ho3]; decide)) rfl ?_
                  refine wkP.iconst 239 (1 : Int32) at_238 rfl rfl ?_
                  refine wkP.goto 243 at_239 (by decide) (by decide) ?_
                  refine wkP.istore 245 #[.val (.int i0), .val (.int i1), .val (.int i2), .val (.int i3), .val (.int i4), .val (.int (4 : Int32)), .val (.int c0), .val (.int c1), .val (.int c2), .val (.int c3), .val (.ref a109), .val (.int (1 : Int32))] at_243 rfl rfl ?_
                  refine wkP.more (k1 := 12) (n1 := 200) (by decide) (by decide) ?_
                  exact T_law l Z a0 g _ _ _ _ _ _ _ _ _ _ _ _ _ _ _ _ _ H120 (by simp) (by rw [if_pos (by unfold nm; simp_all)])
                · refine wkP.ifT 242 at_235 (show (if okc c3 then 1 else 0) = (0 : Int32) from (by rw [if_neg ho3])) (by decide) (by decide) ?_
                  refine wkP.iconst 243 (0 : Int32) at_242 rfl rfl ?_
                  refine wkP.istore 245 #[.val (.int i0), .val (.int i1), .val (.int i2), .val (.int i3), .val (.int i4), .val (.int (4 : Int32)), .val (.int c0), .val (.int c1), .val (.int c2), .val (.int c3), .val (.ref a109), .val (.int (0 : Int32))] at_243 rfl rfl ?_
                  refine wkP.more (k1 := 12) (n1 := 200) (by decide) (by decide) ?_
                  exact T_law l Z a0 g _ _ _ _ _ _ _ _ _ _ _ _ _ _ _ _ _ H120 (by simp) (by rw [if_neg (by unfold nm; simp_all)])
              · refine wkP.ifT 242 at_221 (show (if okc c2 then 1 else 0) = (0 : Int32) from (by rw [if_neg ho2])) (by decide) (by decide) ?_
                refine wkP.iconst 243 (0 : Int32) at_242 rfl rfl ?_
                refine wkP.istore 245 #[.val (.int i0), .val (.int i1), .val (.int i2), .val (.int i3), .val (.int i4), .val (.int (4 : Int32)), .val (.int c0), .val (.int c1), .val (.int c2), .val (.int c3), .val (.ref a109), .val (.int (0 : Int32))] at_243 rfl rfl ?_
                refine wkP.more (k1 := 12) (n1 := 200) (by decide) (by decide) ?_
                exact T_law l Z a0 g _ _ _ _ _ _ _ _ _ _ _ _ _ _ _ _ _ H120 (by simp) (by rw [if_neg (by unfold nm; simp_all)])
            · refine wkP.ifT 242 at_207 (show (if okc c1 then 1 else 0) = (0 : Int32) from (by rw [if_neg ho1])) (by decide) (by decide) ?_
              refine wkP.iconst 243 (0 : Int32) at_242 rfl rfl ?_
              refine wkP.istore 245 #[.val (.int i0), .val (.int i1), .val (.int i2), .val (.int i3), .val (.int i4), .val (.int (4 : Int32)), .val (.int c0), .val (.int c1), .val (.int c2), .val (.int c3), .val (.ref a109), .val (.int (0 : Int32))] at_243 rfl rfl ?_
              refine wkP.more (k1 := 12) (n1 := 200) (by decide) (by decide) ?_
              exact T_law l Z a0 g _ _ _ _ _ _ _ _ _ _ _ _ _ _ _ _ _ H120 (by simp) (by rw [if_neg (by unfold nm; simp_all)])
          · refine wkP.ifT 242 at_193 (show (if okc c0 then 1 else 0) = (0 : Int32) from (by rw [if_neg ho0])) (by decide) (by decide) ?_
            refine wkP.iconst 243 (0 : Int32) at_242 rfl rfl ?_
            refine wkP.istore 245 #[.val (.int i0), .val (.int i1), .val (.int i2), .val (.int i3), .val (.int i4), .val (.int (4 : Int32)), .val (.int c0), .val (.int c1), .val (.int c2), .val (.int c3), .val (.ref a109), .val (.int (0 : Int32))] at_243 rfl rfl ?_
            refine wkP.more (k1 := 12) (n1 := 200) (by decide) (by decide) ?_
            exact T_law l Z a0 g _ _ _ _ _ _ _ _ _ _ _ _ _ _ _ _ _ H120 (by simp) (by rw [if_neg (by unfold nm; simp_all)])
theorem own_EW {Z : State} {a0 : Array Value} (hw : ∀ d ∈ tables_1, d.before a0 Z = true) : EW Z a0 EL := by
  exact (EW.cons (text := "") (w16 hw) (by decide) EW.nil)
set_option maxRecDepth 65536 in
set_option maxHeartbeats 4000000 in
theorem comes_1 {Post : Tables → Env → Array Value → State → Outcome → State → Prop} (hpost : ∀ tb e args s v u, (limb_1_1.after args s (.returned v) u = true ∧ limb_1_2.after args s (.returned v) u = true ∧ True) → FramedW s (.returned v) u (Jvm.fieldLocs frame_1_writes args s ++ Jvm.arrayLocs frame_1_arrays args s ++ Jvm.staticLocs frame_1_statics s) 24 1152 → Post tb e args s (.returned v) u) :
    ArmFor flags0 classFile x code maxLocals ret World_1 tables_1 room_1 Calls_1 rest_1 Pre_1 Post := by
  intro l hfl _ _ p e ha hc hk s m args below hf hA hF happ hP
  obtain ⟨hcalls, hrest, hpre⟩ := hP
  obtain ⟨-, -, -, hnamed, -, -, -, hat⟩ := (Spec.applies_iff hf).mp happ
  obtain ⟨hg, hn⟩ := and_e (Cond.before_iff.mp (show (Jvm.Cond.and given_1 narrow_1).before args s = true from hpre))
  obtain ⟨q0, hg⟩ := and_e hg
  obtain ⟨q1, hg⟩ := and_e hg
  obtain ⟨q2, hg⟩ := and_e hg
  obtain ⟨q3, hg⟩ := and_e hg
  obtain ⟨q4, hg⟩ := and_e hg
  have q5 := hg
  obtain ⟨u0, u1, u2, u3, u4, rfl⟩ : ∃ u0 u1 u2 u3 u4 : Value, args = #[u0, u1, u2, u3, u4] := by
    have hs : args.size = 5 := by simpa [Cond.value, given_1] using q0
    obtain ⟨L⟩ := args
    match L, hs with
    | [u0, u1, u2, u3, u4], _ => exact ⟨u0, u1, u2, u3, u4, rfl⟩
  have hw := fun d (hd : d ∈ tables_1) => atoms_spec (ws := Jvm.Cond.code x code maxLocals ret :: tables_1) hat d (List.mem_cons_of_mem _ hd)
  obtain ⟨hsets, hown0⟩ := atoms_of _ (rest_1_c_eq ▸ (show rest_1_c.before _ s = true from hrest))
  obtain ⟨i0, e0⟩ := is_v q1
  obtain rfl : u0 = (.int i0) := Option.some.inj e0
  obtain ⟨i1, e1⟩ := is_v q2
  obtain rfl : u1 = (.int i1) := Option.some.inj e1
  obtain ⟨i2, e2⟩ := is_v q3
  obtain rfl : u2 = (.int i2) := Option.some.inj e2
  obtain ⟨i3, e3⟩ := is_v q4
  obtain rfl : u3 = (.int i3) := Option.some.inj e3
  obtain ⟨i4, e4⟩ := is_v q5
  obtain rfl : u4 = (.int i4) := Option.some.inj e4
  have n3 := not_v (Cond.before_iff.mp (hsets _ (List.mem_of_getElem? (i := 2) rfl)))
  obtain ⟨zc, ezc⟩ := is_v (Cond.before_iff.mp (hsets _ (List.mem_of_getElem? (i := 1) rfl)))
  have S8 : Sta s s.heap "java/lang/String" "COMPACT_STRINGS" "Z" (.int zc) := Sta.start ezc (Or.inl (hsets _ (List.mem_of_getElem? (i := 0) rfl)))
  have c13 : ¬ (zc = (0 : Int32)) := gotF (Cond.eq_ints ezc (Term.int_eval (0))) n3
  obtain ⟨fm, efm, rfm⟩ := isR_v (Cond.before_iff.mp (hsets _ (List.mem_of_getElem? (i := 8) rfl)))
  have S9 : Sta s s.heap "jdk/internal/util/Preconditions" "SIOOBE_FORMATTER" "Ljava/util/function/BiFunction;" fm := Sta.start efm (Or.inl (hsets _ (List.mem_of_getElem? (i := 7) rfl)))
  have T0 : Sta s s.heap "java/lang/StringUTF16" "$assertionsDisabled" "Z" (.int 1) := Sta.start (Cond.eq_int (hsets _ (List.mem_of_getElem? (i := 12) rfl)) rfl) (Or.inl (hsets _ (List.mem_of_getElem? (i := 11) rfl)))
  have T1 : Sta s s.heap "java/lang/StringUTF16" "HI_BYTE_SHIFT" "I" (.int 0) := Sta.start (Cond.eq_int (hsets _ (List.mem_of_getElem? (i := 15) rfl)) rfl) (Or.inl (hsets _ (List.mem_of_getElem? (i := 14) rfl)))
  have T2 : Sta s s.heap "java/lang/StringUTF16" "LO_BYTE_SHIFT" "I" (.int 8) := Sta.start (Cond.eq_int (hsets _ (List.mem_of_getElem? (i := 18) rfl)) rfl) (Or.inl (hsets _ (List.mem_of_getElem? (i := 17) rfl)))
  have hE := own_EW hw
  have hCH : CHv s EL s.vm s.heap := CHv.start hE (fun q hq => hcalls.1 q hq) (hsets _ (List.mem_of_getElem? (i := 2) rfl)) (sAtoms hw _ (by simp [Bundle.stringAtoms])) (sAtoms hw _ (by simp [Bundle.stringAtoms, Bundle.sN]))
  obtain ⟨b1, b2, b3, b4, b5, b6, b7, -⟩ := (Spec.appliesLoose_iff hf).mp ((Spec.applies_iff_loose hf).mp happ).1
  have hcode := atoms_spec (ws := Jvm.Cond.code x code maxLocals ret :: tables_1) hat _ (List.mem_cons_self ..)
  have hap : (head1 [Jvm.Cond.code x code maxLocals ret] room_1).appliesLoose x e.platform s = true := (Spec.appliesLoose_iff hf).mpr ⟨b1, b2, b3, b4, b5, b6, b7, by show (Jvm.Cond.and _ .tt).before _ s = true; rw [Cond.before_and, hcode]; rfl⟩
  obtain ⟨n, o, h1, h2, h3, v, L, rfl, ⟨os, rfl, -, N, -, -⟩, -, hq⟩ := M_law l s _ ⟨hw, hE, ⟨zc, S8, c13⟩, ⟨fm, S9, rfm⟩, T0, T1, T2⟩ s.heap i0 i1 i2 i3 i4 (Old.start s) (by simp) p e ha hc hk s m _ below hf hap ⟨rfl, State.Warmed39.refl s, rfl, hCH, by simp⟩ trivial
  exact ⟨n, _, h1, h2, h3, hpost _ _ _ _ _ _ ⟨Cond.after_iff.mpr rfl, Cond.after_iff.mpr (eq_i res_at (Term.int_eval (1)) rfl), trivial⟩ ⟨hq.1, hq.2.1, hq.2.2.1, (hq.2.2.2.sift fun y hy => Or.inr (N y hy)).mono (by decide) (by decide)⟩⟩
theorem main_1_1 : Claimed_1_1 := comes_1 fun _ _ _ _ _ _ h hF => ⟨h.1, hF⟩
theorem main_1_2 : Claimed_1_2 := comes_1 fun _ _ _ _ _ _ h hF => ⟨h.2.1, hF⟩
end Jvm.Pilot.@@N@@
namespace Jvm.Pilot.@@N@@
open Jvm Jvm.ClassFile Sem Op Lib Jvm.Free Jvm.Stand Jvm.Pilot.@@N@@.Jvm.D
/-! MADE BY PROGRAM (witnessworld.py) out of the Statement's table words and the real class files: 20 classes; the members and pool entries that the words name. The judged class is class 1, her method 2. -/
namespace start1
open Jvm.ClassFile
def u (s : String) : CpInfo := .utf8 (stringToUtf16 s)
/-- a pool by its gaps: so many unusable entries, then the entry; so many at the end -/
def gap : Nat → List CpInfo → List CpInfo
  | 0, r => r
  | n + 1, r => .unusable :: gap n r
def poolList (es : List (Nat × CpInfo)) (last : Nat) : List CpInfo := es.foldr (fun e r => gap e.1 (e.2 :: r)) (gap last [])
def pool (es : List (Nat × CpInfo)) (last : Nat) : Array CpInfo := ⟨poolList es last⟩
def fileOf (pool : Array CpInfo) (this : Nat) (attrs : Array Attribute := #[]) (ms : Array MethodInfo := #[]) (fl : Nat := 33) (sup : Nat := 0) (ifs : Array Nat := #[]) (fds : Array FieldInfo := #[]) : ClassFile where
  minorVersion := 0
  majorVersion := 65
  constantPool := pool
  accessFlags := fl
  thisClass := this
  superClass := sup
  interfaces := ifs
  fields := fds
  methods := ms
  attributes := attrs
def plain (name : String) (sup : Option ClassId) : Class where
  name := name
  kind := .ordinary
  loader := none
  accessFlags := 33
  super := sup
  interfaces := #[]
  cf := none
  fields := #[]
  methods := #[]
  instanceTypes := #[]
  staticTypes := #[]
  resolved := #[]
  callSites := []
  init := .initialized
  statics := none
  mirror := none

def pool0 : Array CpInfo := pool [(5, u "<init>"), (0, u "()V"), (1, .class_ 10), (1, u "java/lang/Object")] 113

def k0c0 : Code := { maxStack := 0, maxLocals := 1, code := object_method_1_code, exceptionTable := #[], attributes := #[] }
def k0m0 : Method := { name := "<init>", desc := "()V", sig := { parameters := [], returnType := none }, accessFlags := 1, code := some k0c0 }
/-- java/lang/Object -/
def k0 : Class := { plain "java/lang/Object" none with
  accessFlags := 33
  interfaces := #[]
  cf := some (fileOf pool0 8 #[] #[{ accessFlags := 1, nameIndex := 5, descriptorIndex := 6, attributes := #[] }] 33 0 #[] #[])
  fields := #[]
  methods := #[k0m0]
  instanceTypes := #[]
  staticTypes := #[]
  resolved := Array.replicate 124 none
  statics := none }

def pool1 : Array CpInfo := pool [(2, .class_ 4), (1, u "java/lang/Object"), (0, u "<init>"), (0, u "()V"), (0, .integer 2147483647), (0, .integer 65535), (0, .class_ 10), (0, u "java/lang/String"), (0, .methodref 9 12), (0, .nameAndType 5 13), (0, u "([C)V"), (0, .methodref 15 16), (0, .class_ 17), (0, .nameAndType 18 19), (0, u "com/example/chanticleer/chanticleer/engine/NamesIsNamePinLaw"), (0, u "ok"), (0, u "(C)Z"), (0, .methodref 21 22), (0, .class_ 23), (0, .nameAndType 24 25), (0, u "com/example/chanticleer/chanticleer/engine/Names"), (0, u "isName"), (0, u "(Ljava/lang/String;)Z"), (3, u "law"), (0, u "(IIIII)Z")] 2

def k1m0 : Method := { name := "<init>", desc := "()V", sig := { parameters := [], returnType := none }, accessFlags := 2, code := none }
def k1c1 : Code := { maxStack := 2, maxLocals := 1, code := method_2_code, exceptionTable := #[], attributes := #[] }
def k1m1 : Method := { name := "ok", desc := "(C)Z", sig := { parameters := [.char], returnType := some .boolean }, accessFlags := 10, code := some k1c1 }
def k1c2 : Code := { maxStack := 6, maxLocals := 12, code := code, exceptionTable := #[], attributes := #[] }
def k1m2 : Method := { name := "law", desc := "(IIIII)Z", sig := { parameters := [.int, .int, .int, .int, .int], returnType := some .boolean }, accessFlags := 9, code := some k1c2 }
/-- com/example/chanticleer/chanticleer/engine/NamesIsNamePinLaw -/
def k1 : Class := { plain "com/example/chanticleer/chanticleer/engine/NamesIsNamePinLaw" (some 0) with
  accessFlags := 49
  interfaces := #[]
  cf := some (fileOf pool1 15 #[] #[{ accessFlags := 2, nameIndex := 5, descriptorIndex := 6, attributes := #[] }, { accessFlags := 10, nameIndex := 18, descriptorIndex := 19, attributes := #[] }, { accessFlags := 9, nameIndex := 29, descriptorIndex := 30, attributes := #[] }] 49 2 #[] #[])
  fields := #[]
  methods := #[k1m0, k1m1, k1m2]
  instanceTypes := #[]
  staticTypes := #[]
  resolved := Array.replicate 33 none
  statics := none }

def pool2 : Array CpInfo := pool [(1, .class_ 2), (0, u "java/io/Serializable"), (0, .class_ 4), (0, u "java/lang/Object")] 2

/-- java/io/Serializable -/
def k2 : Class := { plain "java/io/Serializable" (some 0) with
  accessFlags := 1537
  interfaces := #[]
  cf := some (fileOf pool2 1 #[] #[] 1537 3 #[] #[])
  fields := #[]
  methods := #[]
  instanceTypes := #[]
  staticTypes := #[]
  resolved := Array.replicate 7 none
  statics := none }

def pool3 : Array CpInfo := pool [(1, .class_ 2), (0, u "java/lang/Comparable"), (0, .class_ 4), (0, u "java/lang/Object")] 7

/-- java/lang/Comparable -/
def k3 : Class := { plain "java/lang/Comparable" (some 0) with
  accessFlags := 1537
  interfaces := #[]
  cf := some (fileOf pool3 1 #[] #[] 1537 3 #[] #[])
  fields := #[]
  methods := #[]
  instanceTypes := #[]
  staticTypes := #[]
  resolved := Array.replicate 12 none
  statics := none }

def pool4 : Array CpInfo := pool [(2, .class_ 4), (1, u "java/lang/CharSequence"), (42, .class_ 48), (0, u "java/lang/CharSequence$1CodePointIterator"), (10, .class_ 60), (0, u "java/lang/CharSequence$1CharIterator"), (5, .class_ 67), (0, u "java/lang/Object")] 63

/-- java/lang/CharSequence -/
def k4 : Class := { plain "java/lang/CharSequence" (some 0) with
  accessFlags := 1537
  interfaces := #[]
  cf := some (fileOf pool4 2 #[.nestMembers #[47, 59]] #[] 1537 66 #[] #[])
  fields := #[]
  methods := #[]
  instanceTypes := #[]
  staticTypes := #[]
  resolved := Array.replicate 131 none
  statics := none }

def pool5 : Array CpInfo := pool [(1, .class_ 2), (0, u "java/lang/constant/Constable"), (0, .class_ 4), (0, u "java/lang/Object")] 6

/-- java/lang/constant/Constable -/
def k5 : Class := { plain "java/lang/constant/Constable" (some 0) with
  accessFlags := 1537
  interfaces := #[]
  cf := some (fileOf pool5 1 #[] #[] 1537 3 #[] #[])
  fields := #[]
  methods := #[]
  instanceTypes := #[]
  staticTypes := #[]
  resolved := Array.replicate 11 none
  statics := none }

def pool6 : Array CpInfo := pool [(1, .class_ 2), (0, u "java/lang/constant/ConstantDesc"), (0, .class_ 4), (0, u "java/lang/Object")] 32

/-- java/lang/constant/ConstantDesc -/
def k6 : Class := { plain "java/lang/constant/ConstantDesc" (some 0) with
  accessFlags := 1537
  interfaces := #[]
  cf := some (fileOf pool6 1 #[] #[] 1537 3 #[] #[])
  fields := #[]
  methods := #[]
  instanceTypes := #[]
  staticTypes := #[]
  resolved := Array.replicate 37 none
  statics := none }

def pool7 : Array CpInfo := pool [(1, .methodref 2 3), (0, .class_ 4), (0, .nameAndType 5 6), (0, u "java/lang/Object"), (0, u "<init>"), (0, u "()V"), (0, .string 8), (0, u ""), (0, .fieldref 10 11), (0, .class_ 12), (0, .nameAndType 13 14), (0, u "java/lang/String"), (0, u "value"), (0, u "[B"), (0, .fieldref 10 16), (0, .nameAndType 17 18), (0, u "coder"), (0, u "B"), (2, u "hash"), (0, u "I"), (2, u "hashIsZero"), (0, u "Z"), (0, .methodref 10 28), (0, .nameAndType 5 29), (0, u "([CIILjava/lang/Void;)V"), (8, .fieldref 10 39), (0, .nameAndType 40 26), (0, u "COMPACT_STRINGS"), (1, .class_ 44), (1, u "java/lang/StringUTF16"), (0, u "compress"), (1, .methodref 42 48), (0, .nameAndType 49 50), (0, u "coderFromArrayLen"), (0, u "([BI)B"), (56, .class_ 109), (1, u "java/lang/StringLatin1"), (32, u "()Z"), (34, .methodref 42 178), (0, .nameAndType 45 179), (0, u "([CII)[B"), (154, u "()I"), (0, .methodref 10 336), (0, .nameAndType 17 337), (0, u "()B"), (25, u "([BI)C"), (27, u "(II)V"), (35, u "(I)C"), (64, .methodref 10 493), (0, .nameAndType 494 142), (0, u "isLatin1"), (0, .methodref 107 496), (0, .nameAndType 497 363), (0, u "charAt"), (0, .methodref 42 496), (2, u "checkIndex"), (5, u "length"), (67, .class_ 576), (0, u "java/lang/CharSequence"), (22, u "CASE_INSENSITIVE_ORDER"), (0, u "Ljava/util/Comparator;"), (91, u "isEmpty"), (317, u "([C)V"), (42, .fieldref 1054 1055), (0, .class_ 1056), (0, .nameAndType 1057 1058), (0, u "jdk/internal/util/Preconditions"), (0, u "SIOOBE_FORMATTER"), (0, u "Ljava/util/function/BiFunction;"), (0, .methodref 1054 1060), (0, .nameAndType 501 1061), (0, u "(IILjava/util/function/BiFunction;)I"), (39, u "serialPersistentFields"), (0, u "[Ljava/io/ObjectStreamField;"), (0, .class_ 1104), (0, u "java/lang/String$CaseInsensitiveComparator"), (1, .class_ 1107), (0, u "java/io/Serializable"), (0, .class_ 1109), (0, u "java/lang/Comparable"), (0, .class_ 1111), (0, u "java/lang/constant/Constable"), (0, .class_ 1113), (0, u "java/lang/constant/ConstantDesc"), (2, u "serialVersionUID"), (0, u "J"), (3, u "REPL"), (0, u "C"), (2, u "LATIN1"), (1, u "UTF16")] 323

def k7m0 : Method := { name := "<init>", desc := "()V", sig := { parameters := [], returnType := none }, accessFlags := 1, code := none }
def k7c1 : Code := { maxStack := 5, maxLocals := 2, code := jdk_42_method_3_code, exceptionTable := #[], attributes := #[] }
def k7m1 : Method := { name := "<init>", desc := "([C)V", sig := { parameters := [(.array .char)], returnType := none }, accessFlags := 1, code := some k7c1 }
def k7c2 : Code := { maxStack := 2, maxLocals := 1, code := jdk_42_method_54_code, exceptionTable := #[], attributes := #[] }
def k7m2 : Method := { name := "length", desc := "()I", sig := { parameters := [], returnType := some .int }, accessFlags := 1, code := some k7c2 }
def k7c3 : Code := { maxStack := 1, maxLocals := 1, code := jdk_42_method_55_code, exceptionTable := #[], attributes := #[] }
def k7m3 : Method := { name := "isEmpty", desc := "()Z", sig := { parameters := [], returnType := some .boolean }, accessFlags := 1, code := some k7c3 }
def k7c4 : Code := { maxStack := 2, maxLocals := 2, code := jdk_42_method_56_code, exceptionTable := #[], attributes := #[] }
def k7m4 : Method := { name := "charAt", desc := "(I)C", sig := { parameters := [.int], returnType := some .char }, accessFlags := 1, code := some k7c4 }
def k7c5 : Code := { maxStack := 4, maxLocals := 6, code := jdk_42_method_149_code, exceptionTable := #[], attributes := #[] }
def k7m5 : Method := { name := "<init>", desc := "([CIILjava/lang/Void;)V", sig := { parameters := [(.array .char), .int, .int, (.object "java/lang/Void")], returnType := none }, accessFlags := 2, code := some k7c5 }
def k7c6 : Code := { maxStack := 1, maxLocals := 1, code := jdk_42_method_152_code, exceptionTable := #[], attributes := #[] }
def k7m6 : Method := { name := "coder", desc := "()B", sig := { parameters := [], returnType := some .byte }, accessFlags := 0, code := some k7c6 }
def k7c7 : Code := { maxStack := 1, maxLocals := 1, code := jdk_42_method_154_code, exceptionTable := #[], attributes := #[] }
def k7m7 : Method := { name := "isLatin1", desc := "()Z", sig := { parameters := [], returnType := some .boolean }, accessFlags := 0, code := some k7c7 }
def k7c8 : Code := { maxStack := 3, maxLocals := 2, code := jdk_42_method_155_code, exceptionTable := #[], attributes := #[] }
def k7m8 : Method := { name := "checkIndex", desc := "(II)V", sig := { parameters := [.int, .int], returnType := none }, accessFlags := 8, code := some k7c8 }
/-- java/lang/String -/
def k7 : Class := { plain "java/lang/String" (some 0) with
  accessFlags := 49
  interfaces := #[2, 3, 4, 5, 6]
  cf := some (fileOf pool7 10 #[.nestMembers #[1103]] #[{ accessFlags := 1, nameIndex := 5, descriptorIndex := 6, attributes := #[] }, { accessFlags := 1, nameIndex := 5, descriptorIndex := 1010, attributes := #[] }, { accessFlags := 1, nameIndex := 507, descriptorIndex := 334, attributes := #[] }, { accessFlags := 1, nameIndex := 692, descriptorIndex := 142, attributes := #[] }, { accessFlags := 1, nameIndex := 497, descriptorIndex := 427, attributes := #[] }, { accessFlags := 2, nameIndex := 5, descriptorIndex := 29, attributes := #[] }, { accessFlags := 0, nameIndex := 17, descriptorIndex := 337, attributes := #[] }, { accessFlags := 0, nameIndex := 494, descriptorIndex := 142, attributes := #[] }, { accessFlags := 8, nameIndex := 501, descriptorIndex := 391, attributes := #[] }] 49 2 #[1106, 1108, 575, 1110, 1112] #[{ accessFlags := 18, nameIndex := 13, descriptorIndex := 14, attributes := #[] }, { accessFlags := 18, nameIndex := 17, descriptorIndex := 18, attributes := #[] }, { accessFlags := 2, nameIndex := 21, descriptorIndex := 22, attributes := #[] }, { accessFlags := 2, nameIndex := 25, descriptorIndex := 26, attributes := #[] }, { accessFlags := 26, nameIndex := 1116, descriptorIndex := 1117, attributes := #[] }, { accessFlags := 24, nameIndex := 40, descriptorIndex := 26, attributes := #[] }, { accessFlags := 26, nameIndex := 1101, descriptorIndex := 1102, attributes := #[] }, { accessFlags := 26, nameIndex := 1121, descriptorIndex := 1122, attributes := #[] }, { accessFlags := 25, nameIndex := 599, descriptorIndex := 600, attributes := #[] }, { accessFlags := 24, nameIndex := 1125, descriptorIndex := 18, attributes := #[] }, { accessFlags := 24, nameIndex := 1127, descriptorIndex := 18, attributes := #[] }])
  fields := #[{ name := "value", type := (.array .byte), accessFlags := 18, slot := 0, constantValue := 0 }, { name := "coder", type := .byte, accessFlags := 18, slot := 1, constantValue := 0 }, { name := "hash", type := .int, accessFlags := 2, slot := 2, constantValue := 0 }, { name := "hashIsZero", type := .boolean, accessFlags := 2, slot := 3, constantValue := 0 }, { name := "serialVersionUID", type := .long, accessFlags := 26, slot := 0, constantValue := 0 }, { name := "COMPACT_STRINGS", type := .boolean, accessFlags := 24, slot := 1, constantValue := 0 }, { name := "serialPersistentFields", type := (.array (.object "java/io/ObjectStreamField")), accessFlags := 26, slot := 2, constantValue := 0 }, { name := "REPL", type := .char, accessFlags := 26, slot := 3, constantValue := 0 }, { name := "CASE_INSENSITIVE_ORDER", type := (.object "java/util/Comparator"), accessFlags := 25, slot := 4, constantValue := 0 }, { name := "LATIN1", type := .byte, accessFlags := 24, slot := 5, constantValue := 0 }, { name := "UTF16", type := .byte, accessFlags := 24, slot := 6, constantValue := 0 }]
  methods := #[k7m0, k7m1, k7m2, k7m3, k7m4, k7m5, k7m6, k7m7, k7m8]
  instanceTypes := #[(.array .byte), .byte, .int, .boolean]
  staticTypes := #[.long, .boolean, (.array (.object "java/io/ObjectStreamField")), .char, (.object "java/util/Comparator"), .byte, .byte]
  resolved := Array.replicate 1451 none
  statics := some 0 }

def pool8 : Array CpInfo := pool [(1, .class_ 2), (0, u "com/example/chanticleer/chanticleer/engine/Names"), (1, .class_ 6), (1, u "java/lang/Object"), (0, u "<init>"), (0, u "()V"), (0, .methodref 10 11), (0, .class_ 12), (0, .nameAndType 13 14), (0, u "java/lang/String"), (0, u "isEmpty"), (0, u "()Z"), (0, .methodref 10 16), (0, .nameAndType 17 18), (0, u "length"), (0, u "()I"), (0, .methodref 10 20), (0, .nameAndType 21 22), (0, u "charAt"), (0, u "(I)C"), (0, .methodref 1 24), (0, .nameAndType 25 26), (0, u "isNameCharacter"), (0, u "(C)Z"), (11, u "isName"), (0, u "(Ljava/lang/String;)Z"), (3, u "MAX_LENGTH"), (0, u "I"), (2, u "RULE"), (0, u "Ljava/lang/String;")] 26

def k8m0 : Method := { name := "<init>", desc := "()V", sig := { parameters := [], returnType := none }, accessFlags := 2, code := none }
def k8c1 : Code := { maxStack := 2, maxLocals := 2, code := prog_33_method_2_code, exceptionTable := #[], attributes := #[] }
def k8m1 : Method := { name := "isName", desc := "(Ljava/lang/String;)Z", sig := { parameters := [(.object "java/lang/String")], returnType := some .boolean }, accessFlags := 9, code := some k8c1 }
def k8c2 : Code := { maxStack := 2, maxLocals := 1, code := prog_33_method_3_code, exceptionTable := #[], attributes := #[] }
def k8m2 : Method := { name := "isNameCharacter", desc := "(C)Z", sig := { parameters := [.char], returnType := some .boolean }, accessFlags := 10, code := some k8c2 }
/-- com/example/chanticleer/chanticleer/engine/Names -/
def k8 : Class := { plain "com/example/chanticleer/chanticleer/engine/Names" (some 0) with
  accessFlags := 33
  interfaces := #[]
  cf := some (fileOf pool8 1 #[] #[{ accessFlags := 2, nameIndex := 7, descriptorIndex := 8, attributes := #[] }, { accessFlags := 9, nameIndex := 38, descriptorIndex := 39, attributes := #[] }, { accessFlags := 10, nameIndex := 25, descriptorIndex := 26, attributes := #[] }] 33 4 #[] #[{ accessFlags := 25, nameIndex := 43, descriptorIndex := 44, attributes := #[] }, { accessFlags := 25, nameIndex := 47, descriptorIndex := 48, attributes := #[] }])
  fields := #[{ name := "MAX_LENGTH", type := .int, accessFlags := 25, slot := 0, constantValue := 0 }, { name := "RULE", type := (.object "java/lang/String"), accessFlags := 25, slot := 1, constantValue := 0 }]
  methods := #[k8m0, k8m1, k8m2]
  instanceTypes := #[]
  staticTypes := #[.int, (.object "java/lang/String")]
  resolved := Array.replicate 75 none
  statics := none }

def pool9 : Array CpInfo := pool [(3, .class_ 4), (0, u "java/lang/String"), (1, .class_ 8), (1, u "java/lang/Object"), (0, u "<init>"), (0, u "()V"), (0, .methodref 12 13), (0, .class_ 14), (0, .nameAndType 15 16), (0, u "java/lang/StringUTF16"), (0, u "newBytesLength"), (0, u "(I)I"), (3, .integer 1073741823), (23, .fieldref 12 45), (0, .nameAndType 46 47), (0, u "$assertionsDisabled"), (0, u "Z"), (0, .methodref 12 49), (0, .nameAndType 50 51), (0, u "length"), (0, u "([B)I"), (7, .fieldref 12 60), (0, .nameAndType 61 62), (0, u "HI_BYTE_SHIFT"), (0, u "I"), (0, .fieldref 12 64), (0, .nameAndType 65 62), (0, u "LO_BYTE_SHIFT"), (1, .methodref 12 68), (0, .nameAndType 69 70), (0, u "checkIndex"), (0, u "(I[B)V"), (0, .methodref 12 72), (0, .nameAndType 73 74), (0, u "getChar"), (0, u "([BI)C"), (32, .methodref 12 108), (0, .nameAndType 109 110), (0, u "newBytesFor"), (0, u "(I)[B"), (0, .methodref 12 112), (0, .nameAndType 113 114), (0, u "putChar"), (0, u "([BII)V"), (0, .methodref 12 116), (0, .nameAndType 117 118), (0, u "compress"), (0, u "([CI[BII)I"), (0, .methodref 12 120), (0, .nameAndType 121 122), (0, u "toBytes"), (0, u "([CII)[B"), (138, u "coderFromArrayLen"), (0, u "([BI)B"), (106, .class_ 371), (1, u "java/lang/StringUTF16$LinesSpliterator"), (20, u "charAt"), (21, .methodref 3 415), (0, .nameAndType 69 416), (0, u "(II)V"), (13, u "MAX_LENGTH"), (196, .class_ 628), (0, u "java/lang/StringUTF16$CodePointsSpliterator"), (0, .class_ 630), (0, u "java/lang/StringUTF16$CharsSpliterator")] 4

def k9m0 : Method := { name := "<init>", desc := "()V", sig := { parameters := [], returnType := none }, accessFlags := 0, code := none }
def k9c1 : Code := { maxStack := 1, maxLocals := 1, code := jdk_52_method_2_code, exceptionTable := #[], attributes := #[] }
def k9m1 : Method := { name := "newBytesFor", desc := "(I)[B", sig := { parameters := [.int], returnType := some (.array .byte) }, accessFlags := 9, code := some k9c1 }
def k9c2 : Code := { maxStack := 4, maxLocals := 1, code := jdk_52_method_3_code, exceptionTable := #[], attributes := #[] }
def k9m2 : Method := { name := "newBytesLength", desc := "(I)I", sig := { parameters := [.int], returnType := some .int }, accessFlags := 9, code := some k9c2 }
def k9c3 : Code := { maxStack := 4, maxLocals := 3, code := jdk_52_method_4_code, exceptionTable := #[], attributes := #[] }
def k9m3 : Method := { name := "putChar", desc := "([BII)V", sig := { parameters := [(.array .byte), .int, .int], returnType := none }, accessFlags := 8, code := some k9c3 }
def k9c4 : Code := { maxStack := 3, maxLocals := 2, code := jdk_52_method_5_code, exceptionTable := #[], attributes := #[] }
def k9m4 : Method := { name := "getChar", desc := "([BI)C", sig := { parameters := [(.array .byte), .int], returnType := some .char }, accessFlags := 8, code := some k9c4 }
def k9c5 : Code := { maxStack := 2, maxLocals := 1, code := jdk_52_method_6_code, exceptionTable := #[], attributes := #[] }
def k9m5 : Method := { name := "length", desc := "([B)I", sig := { parameters := [(.array .byte)], returnType := some .int }, accessFlags := 9, code := some k9c5 }
def k9c6 : Code := { maxStack := 4, maxLocals := 5, code := jdk_52_method_14_code, exceptionTable := #[], attributes := #[] }
def k9m6 : Method := { name := "toBytes", desc := "([CII)[B", sig := { parameters := [(.array .char), .int, .int], returnType := some (.array .byte) }, accessFlags := 9, code := some k9c6 }
def k9c7 : Code := { maxStack := 2, maxLocals := 2, code := jdk_52_method_15_code, exceptionTable := #[], attributes := #[] }
def k9m7 : Method := { name := "coderFromArrayLen", desc := "([BI)B", sig := { parameters := [(.array .byte), .int], returnType := some .byte }, accessFlags := 8, code := some k9c7 }
def k9c8 : Code := { maxStack := 5, maxLocals := 6, code := jdk_52_method_16_code, exceptionTable := #[], attributes := #[] }
def k9m8 : Method := { name := "compress", desc := "([CII)[B", sig := { parameters := [(.array .char), .int, .int], returnType := some (.array .byte) }, accessFlags := 9, code := some k9c8 }
def k9c9 : Code := { maxStack := 3, maxLocals := 7, code := jdk_52_method_21_code, exceptionTable := #[], attributes := #[] }
def k9m9 : Method := { name := "compress", desc := "([CI[BII)I", sig := { parameters := [(.array .char), .int, (.array .byte), .int, .int], returnType := some .int }, accessFlags := 9, code := some k9c9 }
def k9c10 : Code := { maxStack := 2, maxLocals := 2, code := jdk_52_method_83_code, exceptionTable := #[], attributes := #[] }
def k9m10 : Method := { name := "charAt", desc := "([BI)C", sig := { parameters := [(.array .byte), .int], returnType := some .char }, accessFlags := 9, code := some k9c10 }
def k9c11 : Code := { maxStack := 2, maxLocals := 2, code := jdk_52_method_91_code, exceptionTable := #[], attributes := #[] }
def k9m11 : Method := { name := "checkIndex", desc := "(I[B)V", sig := { parameters := [.int, (.array .byte)], returnType := none }, accessFlags := 9, code := some k9c11 }
/-- java/lang/StringUTF16 -/
def k9 : Class := { plain "java/lang/StringUTF16" (some 0) with
  accessFlags := 48
  interfaces := #[]
  cf := some (fileOf pool9 12 #[.nestMembers #[627, 629, 369]] #[{ accessFlags := 0, nameIndex := 9, descriptorIndex := 10, attributes := #[] }, { accessFlags := 9, nameIndex := 109, descriptorIndex := 110, attributes := #[] }, { accessFlags := 9, nameIndex := 15, descriptorIndex := 16, attributes := #[] }, { accessFlags := 8, nameIndex := 113, descriptorIndex := 114, attributes := #[] }, { accessFlags := 8, nameIndex := 73, descriptorIndex := 74, attributes := #[] }, { accessFlags := 9, nameIndex := 50, descriptorIndex := 51, attributes := #[] }, { accessFlags := 9, nameIndex := 121, descriptorIndex := 122, attributes := #[] }, { accessFlags := 8, nameIndex := 261, descriptorIndex := 262, attributes := #[] }, { accessFlags := 9, nameIndex := 117, descriptorIndex := 122, attributes := #[] }, { accessFlags := 9, nameIndex := 117, descriptorIndex := 118, attributes := #[] }, { accessFlags := 9, nameIndex := 392, descriptorIndex := 74, attributes := #[] }, { accessFlags := 9, nameIndex := 69, descriptorIndex := 70, attributes := #[] }] 48 6 #[] #[{ accessFlags := 26, nameIndex := 61, descriptorIndex := 62, attributes := #[] }, { accessFlags := 26, nameIndex := 65, descriptorIndex := 62, attributes := #[] }, { accessFlags := 24, nameIndex := 430, descriptorIndex := 62, attributes := #[] }, { accessFlags := 4120, nameIndex := 46, descriptorIndex := 47, attributes := #[] }])
  fields := #[{ name := "HI_BYTE_SHIFT", type := .int, accessFlags := 26, slot := 0, constantValue := 0 }, { name := "LO_BYTE_SHIFT", type := .int, accessFlags := 26, slot := 1, constantValue := 0 }, { name := "MAX_LENGTH", type := .int, accessFlags := 24, slot := 2, constantValue := 0 }, { name := "$assertionsDisabled", type := .boolean, accessFlags := 4120, slot := 3, constantValue := 0 }]
  methods := #[k9m0, k9m1, k9m2, k9m3, k9m4, k9m5, k9m6, k9m7, k9m8, k9m9, k9m10, k9m11]
  instanceTypes := #[]
  staticTypes := #[.int, .int, .int, .boolean]
  resolved := Array.replicate 635 none
  statics := some 1 }

def pool10 : Array CpInfo := pool [(1, .class_ 2), (0, u "java/lang/String"), (1, .class_ 6), (1, u "java/lang/Object"), (0, u "<init>"), (0, u "()V"), (0, .methodref 1 10), (0, .nameAndType 11 12), (0, u "checkIndex"), (0, u "(II)V"), (1, .class_ 16), (1, u "java/lang/StringLatin1"), (36, u "([BI)C"), (67, u "$assertionsDisabled"), (0, u "Z"), (98, .class_ 223), (1, u "java/lang/StringLatin1$LinesSpliterator"), (28, u "charAt"), (137, .class_ 391), (0, u "java/lang/StringLatin1$CharsSpliterator")] 3

def k10m0 : Method := { name := "<init>", desc := "()V", sig := { parameters := [], returnType := none }, accessFlags := 0, code := none }
def k10c1 : Code := { maxStack := 2, maxLocals := 2, code := jdk_43_method_2_code, exceptionTable := #[], attributes := #[] }
def k10m1 : Method := { name := "charAt", desc := "([BI)C", sig := { parameters := [(.array .byte), .int], returnType := some .char }, accessFlags := 9, code := some k10c1 }
/-- java/lang/StringLatin1 -/
def k10 : Class := { plain "java/lang/StringLatin1" (some 0) with
  accessFlags := 48
  interfaces := #[]
  cf := some (fileOf pool10 14 #[.nestMembers #[390, 221]] #[{ accessFlags := 0, nameIndex := 7, descriptorIndex := 8, attributes := #[] }, { accessFlags := 9, nameIndex := 252, descriptorIndex := 53, attributes := #[] }] 48 4 #[] #[{ accessFlags := 4120, nameIndex := 121, descriptorIndex := 122, attributes := #[] }])
  fields := #[{ name := "$assertionsDisabled", type := .boolean, accessFlags := 4120, slot := 0, constantValue := 0 }]
  methods := #[k10m0, k10m1]
  instanceTypes := #[]
  staticTypes := #[.boolean]
  resolved := Array.replicate 395 none
  statics := none }

def pool11 : Array CpInfo := pool [(2, .class_ 4), (1, u "java/lang/Object"), (0, u "<init>"), (0, u "()V"), (17, .class_ 26), (1, u "jdk/internal/util/Preconditions"), (6, u "checkIndex"), (21, .class_ 56), (0, u "jdk/internal/util/Preconditions$4"), (57, .class_ 115), (0, u "jdk/internal/util/Preconditions$1"), (7, u "SIOOBE_FORMATTER"), (0, u "Ljava/util/function/BiFunction;"), (0, .class_ 126), (0, u "jdk/internal/util/Preconditions$2"), (3, u "AIOOBE_FORMATTER"), (0, .class_ 132), (0, u "jdk/internal/util/Preconditions$3"), (3, u "IOOBE_FORMATTER"), (41, u "(IILjava/util/function/BiFunction;)I")] 15

def k11m0 : Method := { name := "<init>", desc := "()V", sig := { parameters := [], returnType := none }, accessFlags := 1, code := none }
def k11c1 : Code := { maxStack := 3, maxLocals := 3, code := jdk_41_method_11_code, exceptionTable := #[], attributes := #[] }
def k11m1 : Method := { name := "checkIndex", desc := "(IILjava/util/function/BiFunction;)I", sig := { parameters := [.int, .int, (.object "java/util/function/BiFunction")], returnType := some .int }, accessFlags := 9, code := some k11c1 }
/-- jdk/internal/util/Preconditions -/
def k11 : Class := { plain "jdk/internal/util/Preconditions" (some 0) with
  accessFlags := 33
  interfaces := #[]
  cf := some (fileOf pool11 24 #[.nestMembers #[55, 131, 125, 114]] #[{ accessFlags := 1, nameIndex := 5, descriptorIndex := 6, attributes := #[] }, { accessFlags := 9, nameIndex := 33, descriptorIndex := 178, attributes := #[] }] 33 2 #[] #[{ accessFlags := 25, nameIndex := 123, descriptorIndex := 124, attributes := #[] }, { accessFlags := 25, nameIndex := 130, descriptorIndex := 124, attributes := #[] }, { accessFlags := 25, nameIndex := 136, descriptorIndex := 124, attributes := #[] }])
  fields := #[{ name := "SIOOBE_FORMATTER", type := (.object "java/util/function/BiFunction"), accessFlags := 25, slot := 0, constantValue := 0 }, { name := "AIOOBE_FORMATTER", type := (.object "java/util/function/BiFunction"), accessFlags := 25, slot := 1, constantValue := 0 }, { name := "IOOBE_FORMATTER", type := (.object "java/util/function/BiFunction"), accessFlags := 25, slot := 2, constantValue := 0 }]
  methods := #[k11m0, k11m1]
  instanceTypes := #[]
  staticTypes := #[(.object "java/util/function/BiFunction"), (.object "java/util/function/BiFunction"), (.object "java/util/function/BiFunction")]
  resolved := Array.replicate 194 none
  statics := some 2 }

def pool12 : Array CpInfo := pool [(9, u "<init>"), (6, .class_ 18), (1, u "java/lang/Object"), (0, u "()V"), (1, .class_ 23), (1, u "jdk/internal/util/ArraysSupport"), (0, u "LOG2_ARRAY_LONG_INDEX_SCALE"), (0, u "I"), (2, u "U"), (0, u "Ljdk/internal/misc/Unsafe;"), (8, u "BIG_ENDIAN"), (0, u "Z"), (8, u "LOG2_BYTE_BIT_SIZE"), (4, u "LOG2_ARRAY_INT_INDEX_SCALE"), (54, u "JLA"), (0, u "Ljdk/internal/access/JavaLangAccess;"), (11, u "LOG2_ARRAY_BOOLEAN_INDEX_SCALE"), (9, u "LOG2_ARRAY_BYTE_INDEX_SCALE"), (5, u "LOG2_ARRAY_CHAR_INDEX_SCALE"), (5, u "LOG2_ARRAY_SHORT_INDEX_SCALE"), (18, u "LOG2_ARRAY_FLOAT_INDEX_SCALE"), (24, u "LOG2_ARRAY_DOUBLE_INDEX_SCALE"), (89, u "T_BOOLEAN"), (2, u "T_CHAR"), (1, u "T_FLOAT"), (1, u "T_DOUBLE"), (1, u "T_BYTE"), (1, u "T_SHORT"), (1, u "T_INT"), (1, u "T_LONG"), (1, u "SOFT_MAX_ARRAY_LENGTH")] 83

def k12m0 : Method := { name := "<init>", desc := "()V", sig := { parameters := [], returnType := none }, accessFlags := 2, code := none }
/-- jdk/internal/util/ArraysSupport -/
def k12 : Class := { plain "jdk/internal/util/ArraysSupport" (some 0) with
  accessFlags := 33
  interfaces := #[]
  cf := some (fileOf pool12 21 #[] #[{ accessFlags := 2, nameIndex := 9, descriptorIndex := 19, attributes := #[] }] 33 16 #[] #[{ accessFlags := 24, nameIndex := 28, descriptorIndex := 29, attributes := #[] }, { accessFlags := 26, nameIndex := 38, descriptorIndex := 39, attributes := #[] }, { accessFlags := 25, nameIndex := 121, descriptorIndex := 25, attributes := #[] }, { accessFlags := 25, nameIndex := 131, descriptorIndex := 25, attributes := #[] }, { accessFlags := 25, nameIndex := 137, descriptorIndex := 25, attributes := #[] }, { accessFlags := 25, nameIndex := 143, descriptorIndex := 25, attributes := #[] }, { accessFlags := 25, nameIndex := 53, descriptorIndex := 25, attributes := #[] }, { accessFlags := 25, nameIndex := 24, descriptorIndex := 25, attributes := #[] }, { accessFlags := 25, nameIndex := 162, descriptorIndex := 25, attributes := #[] }, { accessFlags := 25, nameIndex := 187, descriptorIndex := 25, attributes := #[] }, { accessFlags := 26, nameIndex := 48, descriptorIndex := 25, attributes := #[] }, { accessFlags := 25, nameIndex := 277, descriptorIndex := 25, attributes := #[] }, { accessFlags := 25, nameIndex := 280, descriptorIndex := 25, attributes := #[] }, { accessFlags := 25, nameIndex := 282, descriptorIndex := 25, attributes := #[] }, { accessFlags := 25, nameIndex := 284, descriptorIndex := 25, attributes := #[] }, { accessFlags := 25, nameIndex := 286, descriptorIndex := 25, attributes := #[] }, { accessFlags := 25, nameIndex := 288, descriptorIndex := 25, attributes := #[] }, { accessFlags := 25, nameIndex := 290, descriptorIndex := 25, attributes := #[] }, { accessFlags := 25, nameIndex := 292, descriptorIndex := 25, attributes := #[] }, { accessFlags := 26, nameIndex := 108, descriptorIndex := 109, attributes := #[] }, { accessFlags := 25, nameIndex := 294, descriptorIndex := 25, attributes := #[] }])
  fields := #[{ name := "U", type := (.object "jdk/internal/misc/Unsafe"), accessFlags := 24, slot := 0, constantValue := 0 }, { name := "BIG_ENDIAN", type := .boolean, accessFlags := 26, slot := 1, constantValue := 0 }, { name := "LOG2_ARRAY_BOOLEAN_INDEX_SCALE", type := .int, accessFlags := 25, slot := 2, constantValue := 0 }, { name := "LOG2_ARRAY_BYTE_INDEX_SCALE", type := .int, accessFlags := 25, slot := 3, constantValue := 0 }, { name := "LOG2_ARRAY_CHAR_INDEX_SCALE", type := .int, accessFlags := 25, slot := 4, constantValue := 0 }, { name := "LOG2_ARRAY_SHORT_INDEX_SCALE", type := .int, accessFlags := 25, slot := 5, constantValue := 0 }, { name := "LOG2_ARRAY_INT_INDEX_SCALE", type := .int, accessFlags := 25, slot := 6, constantValue := 0 }, { name := "LOG2_ARRAY_LONG_INDEX_SCALE", type := .int, accessFlags := 25, slot := 7, constantValue := 0 }, { name := "LOG2_ARRAY_FLOAT_INDEX_SCALE", type := .int, accessFlags := 25, slot := 8, constantValue := 0 }, { name := "LOG2_ARRAY_DOUBLE_INDEX_SCALE", type := .int, accessFlags := 25, slot := 9, constantValue := 0 }, { name := "LOG2_BYTE_BIT_SIZE", type := .int, accessFlags := 26, slot := 10, constantValue := 0 }, { name := "T_BOOLEAN", type := .int, accessFlags := 25, slot := 11, constantValue := 0 }, { name := "T_CHAR", type := .int, accessFlags := 25, slot := 12, constantValue := 0 }, { name := "T_FLOAT", type := .int, accessFlags := 25, slot := 13, constantValue := 0 }, { name := "T_DOUBLE", type := .int, accessFlags := 25, slot := 14, constantValue := 0 }, { name := "T_BYTE", type := .int, accessFlags := 25, slot := 15, constantValue := 0 }, { name := "T_SHORT", type := .int, accessFlags := 25, slot := 16, constantValue := 0 }, { name := "T_INT", type := .int, accessFlags := 25, slot := 17, constantValue := 0 }, { name := "T_LONG", type := .int, accessFlags := 25, slot := 18, constantValue := 0 }, { name := "JLA", type := (.object "jdk/internal/access/JavaLangAccess"), accessFlags := 26, slot := 19, constantValue := 0 }, { name := "SOFT_MAX_ARRAY_LENGTH", type := .int, accessFlags := 25, slot := 20, constantValue := 0 }]
  methods := #[k12m0]
  instanceTypes := #[]
  staticTypes := #[(.object "jdk/internal/misc/Unsafe"), .boolean, .int, .int, .int, .int, .int, .int, .int, .int, .int, .int, .int, .int, .int, .int, .int, .int, .int, (.object "jdk/internal/access/JavaLangAccess"), .int]
  resolved := Array.replicate 378 none
  statics := none }

def pool13 : Array CpInfo := pool [(1, u "java/lang/Cloneable"), (0, .class_ 1), (0, u "java/lang/Object"), (0, .class_ 3)] 3

/-- java/lang/Cloneable -/
def k13 : Class := { plain "java/lang/Cloneable" (some 0) with
  accessFlags := 1537
  interfaces := #[]
  cf := some (fileOf pool13 2 #[] #[] 1537 4 #[] #[])
  fields := #[]
  methods := #[]
  instanceTypes := #[]
  staticTypes := #[]
  resolved := Array.replicate 8 none
  statics := none }

/-- the primitive byte -/
def k14 : Class := { plain "byte" none with kind := .primitive 'B', accessFlags := 0x411 }
/-- [B -/
def k15 : Class := { plain "[B" (some 0) with kind := .array 14 .byte, interfaces := #[13, 2], accessFlags := 1041 }

/-- the primitive char -/
def k16 : Class := { plain "char" none with kind := .primitive 'C', accessFlags := 0x411 }
/-- [C -/
def k17 : Class := { plain "[C" (some 0) with kind := .array 16 .char, interfaces := #[13, 2], accessFlags := 1041 }

/-- the primitive int -/
def k18 : Class := { plain "int" none with kind := .primitive 'I', accessFlags := 0x411 }
/-- [I -/
def k19 : Class := { plain "[I" (some 0) with kind := .array 18 .int, interfaces := #[13, 2], accessFlags := 1041 }

def heap : Heap := #[{ cls := 7, slots := #[.long 0, .int 1, .null, .int 0, .null, .int 0, .int 0], vm := .statics 7 },
  { cls := 9, slots := #[.int 0, .int 8, .int 0, .int 1], vm := .statics 9 },
  { cls := 11, slots := #[.null, .null, .null], vm := .statics 11 }]
def classes : Array Class := #[k0, k1, k2, k3, k4, k5, k6, k7, k8, k9, k10, k11, k12, k13, k14, k15, k16, k17, k18, k19]
def interned : List (Array UInt16 × Addr) := []
def slotsUsed : Nat := 14
def theMethod : MethodId := ⟨1, 2⟩
def args0 : Array Value := #[.int 5, .int 6, .int 7, .int 8, .int 9]
def aboutOver (below : List Frame) : State where
  vm := { classes := classes, interned := interned.toArray }
  heap := heap
  slotsUsed := slotsUsed
  threads := #[{ frames := .invoking theMethod args0 :: below }]
def below0 : List Frame := [.native { method := ⟨0, 0⟩, args := #[] }]
def about1 : State := aboutOver below0
def p0 : Program := .bare "" "" ""
def e0 : Env := launch0.env 0 0 0
theorem w_frames : about1.frames = Frame.invoking theMethod args0 :: below0 := rfl
set_option maxRecDepth 65536 in
theorem w_args : argsFit about1.vm theMethod args0 = true := by decide +kernel
set_option maxRecDepth 65536 in
theorem w_heap : heapFits about1 = true := by decide +kernel
set_option maxRecDepth 65536 in
theorem w_runnable : about1.curStatus? = some .runnable := by decide +kernel
set_option maxRecDepth 65536 in
theorem w_alone : about1.alone = true := by decide +kernel
set_option maxRecDepth 65536 in
theorem w_named : about1.methodNamed? x = some theMethod := by decide +kernel
set_option maxRecDepth 65536 in
theorem w_hears : about1.hears theMethod below0 = true := by decide +kernel
set_option maxRecDepth 65536 in
theorem w_ripe : about1.ripe theMethod args0 below0 = true := by decide +kernel
theorem w_running : about1.status = .running := rfl
set_option maxRecDepth 65536 in
theorem w_room : about1.hasRoom e0.platform room_1 = true :=
  launch0.hasRoom_least _ room_1 (by decide +kernel) (by decide +kernel) (by decide +kernel) (by decide +kernel) (by decide +kernel) (by decide +kernel)
theorem allAtoms_all (ts : List Jvm.Cond) (a : Array Jvm.Value) (st : Jvm.State) : (allAtoms ts).before a st = ts.all (fun c => c.before a st) := by
  induction ts with
  | nil => rfl
  | cons c t ih =>
    show (Jvm.Cond.and c (allAtoms t)).before a st = _
    rw [Jvm.Cond.before_and, ih, List.all_cons]
def words1 : List Jvm.Cond := Jvm.Cond.code x code maxLocals ret :: tables_1
/-- a 'code' word, met by the world's own term for the bytes: nothing is compared byte by byte -/
theorem code_word {y : MethodName} {bytes : ByteArray} {mx : Nat} {rt : Option FieldType} {a : Array Value} {s : State} {m : MethodId} {meth : Method} {c : Code} (h1 : s.methodNamed? y = some m) (h2 : s.vm.method? m = some meth) (h3 : meth.code = some c) (h4 : c.code = bytes)
    (h5 : (c.maxLocals == mx && c.exceptionTable.isEmpty && decide (c.maxStack ≤ mostOperands) && decide (meth.sig.returnType = rt) && !meth.locks && decide (parseMethodDescriptor y.desc = some meth.sig)) = true) : (Jvm.Cond.code y bytes mx rt).before a s = true := by
  simp only [Bool.and_eq_true, beq_iff_eq, Bool.not_eq_true', decide_eq_true_eq] at h5
  obtain ⟨⟨⟨⟨⟨g1, g2⟩, g3⟩, g4⟩, g5⟩, g6⟩ := h5
  simp [Cond.before, Cond.holds, Cond.value, h1, h2, h3, h4, g1, g2, g3, g4, g5, g6]
def isCode : Jvm.Cond → Bool
  | .code _ _ _ _ => true
  | _ => false
theorem all_split {L : List Jvm.Cond} {P : Jvm.Cond → Bool} (h1 : L.all (fun c => isCode c || P c) = true) (h2 : ∀ c ∈ L.filter isCode, P c = true) : L.all P = true := by
  refine List.all_eq_true.mpr fun c hc => ?_
  have h := List.all_eq_true.mp h1 c hc
  rcases Bool.eq_false_or_eq_true (isCode c) with hi | hi
  · exact h2 c (List.mem_filter.mpr ⟨hc, hi⟩)
  · simpa [hi] using h
set_option maxRecDepth 65536 in
theorem w_c0 : (Jvm.Cond.code x code maxLocals ret).before args0 about1 = true := code_word (m := ⟨1, 2⟩) (meth := k1m2) (c := k1c2) (by decide +kernel) rfl rfl rfl (by decide +kernel)
set_option maxRecDepth 65536 in
theorem w_c1 : (Jvm.Cond.code ({ cls := "java/lang/String", name := "<init>", desc := "([C)V" } : Jvm.MethodName) jdk_42_method_3_code (2 : Nat) (Option.none : Option Jvm.ClassFile.FieldType)).before args0 about1 = true := code_word (m := ⟨7, 1⟩) (meth := k7m1) (c := k7c1) (by decide +kernel) rfl rfl rfl (by decide +kernel)
set_option maxRecDepth 65536 in
theorem w_c2 : (Jvm.Cond.code ({ cls := "java/lang/String", name := "<init>", desc := "([CIILjava/lang/Void;)V" } : Jvm.MethodName) jdk_42_method_149_code (6 : Nat) (Option.none : Option Jvm.ClassFile.FieldType)).before args0 about1 = true := code_word (m := ⟨7, 5⟩) (meth := k7m5) (c := k7c5) (by decide +kernel) rfl rfl rfl (by decide +kernel)
set_option maxRecDepth 65536 in
theorem w_c3 : (Jvm.Cond.code ({ cls := "java/lang/Object", name := "<init>", desc := "()V" } : Jvm.MethodName) object_method_1_code (1 : Nat) (Option.none : Option Jvm.ClassFile.FieldType)).before args0 about1 = true := code_word (m := ⟨0, 0⟩) (meth := k0m0) (c := k0c0) (by decide +kernel) rfl rfl rfl (by decide +kernel)
set_option maxRecDepth 65536 in
theorem w_c4 : (Jvm.Cond.code ({ cls := "com/example/chanticleer/chanticleer/engine/Names", name := "isName", desc := "(Ljava/lang/String;)Z" } : Jvm.MethodName) prog_33_method_2_code (2 : Nat) (Option.some Jvm.ClassFile.FieldType.boolean)).before args0 about1 = true := code_word (m := ⟨8, 1⟩) (meth := k8m1) (c := k8c1) (by decide +kernel) rfl rfl rfl (by decide +kernel)
set_option maxRecDepth 65536 in
theorem w_c5 : (Jvm.Cond.code ({ cls := "java/lang/String", name := "isEmpty", desc := "()Z" } : Jvm.MethodName) jdk_42_method_55_code (1 : Nat) (Option.some Jvm.ClassFile.FieldType.boolean)).before args0 about1 = true := code_word (m := ⟨7, 3⟩) (meth := k7m3) (c := k7c3) (by decide +kernel) rfl rfl rfl (by decide +kernel)
set_option maxRecDepth 65536 in
theorem w_c6 : (Jvm.Cond.code ({ cls := "java/lang/StringUTF16", name := "compress", desc := "([CII)[B" } : Jvm.MethodName) jdk_52_method_16_code (6 : Nat) (Option.some (Jvm.ClassFile.FieldType.array Jvm.ClassFile.FieldType.byte))).before args0 about1 = true := code_word (m := ⟨9, 8⟩) (meth := k9m8) (c := k9c8) (by decide +kernel) rfl rfl rfl (by decide +kernel)
set_option maxRecDepth 65536 in
theorem w_c7 : (Jvm.Cond.code ({ cls := "java/lang/StringUTF16", name := "compress", desc := "([CI[BII)I" } : Jvm.MethodName) jdk_52_method_21_code (7 : Nat) (Option.some Jvm.ClassFile.FieldType.int)).before args0 about1 = true := code_word (m := ⟨9, 9⟩) (meth := k9m9) (c := k9c9) (by decide +kernel) rfl rfl rfl (by decide +kernel)
set_option maxRecDepth 65536 in
theorem w_c8 : (Jvm.Cond.code ({ cls := "java/lang/StringUTF16", name := "coderFromArrayLen", desc := "([BI)B" } : Jvm.MethodName) jdk_52_method_15_code (2 : Nat) (Option.some Jvm.ClassFile.FieldType.byte)).before args0 about1 = true := code_word (m := ⟨9, 7⟩) (meth := k9m7) (c := k9c7) (by decide +kernel) rfl rfl rfl (by decide +kernel)
set_option maxRecDepth 65536 in
theorem w_c9 : (Jvm.Cond.code ({ cls := "com/example/chanticleer/chanticleer/engine/NamesIsNamePinLaw", name := "ok", desc := "(C)Z" } : Jvm.MethodName) method_2_code (1 : Nat) (Option.some Jvm.ClassFile.FieldType.boolean)).before args0 about1 = true := code_word (m := ⟨1, 1⟩) (meth := k1m1) (c := k1c1) (by decide +kernel) rfl rfl rfl (by decide +kernel)
set_option maxRecDepth 65536 in
theorem w_c10 : (Jvm.Cond.code ({ cls := "java/lang/String", name := "length", desc := "()I" } : Jvm.MethodName) jdk_42_method_54_code (1 : Nat) (Option.some Jvm.ClassFile.FieldType.int)).before args0 about1 = true := code_word (m := ⟨7, 2⟩) (meth := k7m2) (c := k7c2) (by decide +kernel) rfl rfl rfl (by decide +kernel)
set_option maxRecDepth 65536 in
theorem w_c11 : (Jvm.Cond.code ({ cls := "java/lang/String", name := "coder", desc := "()B" } : Jvm.MethodName) jdk_42_method_152_code (1 : Nat) (Option.some Jvm.ClassFile.FieldType.byte)).before args0 about1 = true := code_word (m := ⟨7, 6⟩) (meth := k7m6) (c := k7c6) (by decide +kernel) rfl rfl rfl (by decide +kernel)
set_option maxRecDepth 65536 in
theorem w_c12 : (Jvm.Cond.code ({ cls := "java/lang/String", name := "charAt", desc := "(I)C" } : Jvm.MethodName) jdk_42_method_56_code (2 : Nat) (Option.some Jvm.ClassFile.FieldType.char)).before args0 about1 = true := code_word (m := ⟨7, 4⟩) (meth := k7m4) (c := k7c4) (by decide +kernel) rfl rfl rfl (by decide +kernel)
set_option maxRecDepth 65536 in
theorem w_c13 : (Jvm.Cond.code ({ cls := "java/lang/String", name := "isLatin1", desc := "()Z" } : Jvm.MethodName) jdk_42_method_154_code (1 : Nat) (Option.some Jvm.ClassFile.FieldType.boolean)).before args0 about1 = true := code_word (m := ⟨7, 7⟩) (meth := k7m7) (c := k7c7) (by decide +kernel) rfl rfl rfl (by decide +kernel)
set_option maxRecDepth 65536 in
theorem w_c14 : (Jvm.Cond.code ({ cls := "java/lang/StringLatin1", name := "charAt", desc := "([BI)C" } : Jvm.MethodName) jdk_43_method_2_code (2 : Nat) (Option.some Jvm.ClassFile.FieldType.char)).before args0 about1 = true := code_word (m := ⟨10, 1⟩) (meth := k10m1) (c := k10c1) (by decide +kernel) rfl rfl rfl (by decide +kernel)
set_option maxRecDepth 65536 in
theorem w_c15 : (Jvm.Cond.code ({ cls := "java/lang/String", name := "checkIndex", desc := "(II)V" } : Jvm.MethodName) jdk_42_method_155_code (2 : Nat) (Option.none : Option Jvm.ClassFile.FieldType)).before args0 about1 = true := code_word (m := ⟨7, 8⟩) (meth := k7m8) (c := k7c8) (by decide +kernel) rfl rfl rfl (by decide +kernel)
set_option maxRecDepth 65536 in
theorem w_c16 : (Jvm.Cond.code ({ cls := "jdk/internal/util/Preconditions", name := "checkIndex", desc := "(IILjava/util/function/BiFunction;)I" } : Jvm.MethodName) jdk_41_method_11_code (3 : Nat) (Option.some Jvm.ClassFile.FieldType.int)).before args0 about1 = true := code_word (m := ⟨11, 1⟩) (meth := k11m1) (c := k11c1) (by decide +kernel) rfl rfl rfl (by decide +kernel)
set_option maxRecDepth 65536 in
theorem w_c17 : (Jvm.Cond.code ({ cls := "com/example/chanticleer/chanticleer/engine/Names", name := "isNameCharacter", desc := "(C)Z" } : Jvm.MethodName) prog_33_method_3_code (1 : Nat) (Option.some Jvm.ClassFile.FieldType.boolean)).before args0 about1 = true := code_word (m := ⟨8, 2⟩) (meth := k8m2) (c := k8c2) (by decide +kernel) rfl rfl rfl (by decide +kernel)
set_option maxRecDepth 65536 in
theorem w_c18 : (Jvm.Cond.code ({ cls := "java/lang/StringUTF16", name := "toBytes", desc := "([CII)[B" } : Jvm.MethodName) jdk_52_method_14_code (5 : Nat) (Option.some (Jvm.ClassFile.FieldType.array Jvm.ClassFile.FieldType.byte))).before args0 about1 = true := code_word (m := ⟨9, 6⟩) (meth := k9m6) (c := k9c6) (by decide +kernel) rfl rfl rfl (by decide +kernel)
set_option maxRecDepth 65536 in
theorem w_c19 : (Jvm.Cond.code ({ cls := "java/lang/StringUTF16", name := "newBytesFor", desc := "(I)[B" } : Jvm.MethodName) jdk_52_method_2_code (1 : Nat) (Option.some (Jvm.ClassFile.FieldType.array Jvm.ClassFile.FieldType.byte))).before args0 about1 = true := code_word (m := ⟨9, 1⟩) (meth := k9m1) (c := k9c1) (by decide +kernel) rfl rfl rfl (by decide +kernel)
set_option maxRecDepth 65536 in
theorem w_c20 : (Jvm.Cond.code ({ cls := "java/lang/StringUTF16", name := "newBytesLength", desc := "(I)I" } : Jvm.MethodName) jdk_52_method_3_code (1 : Nat) (Option.some Jvm.ClassFile.FieldType.int)).before args0 about1 = true := code_word (m := ⟨9, 2⟩) (meth := k9m2) (c := k9c2) (by decide +kernel) rfl rfl rfl (by decide +kernel)
set_option maxRecDepth 65536 in
theorem w_c21 : (Jvm.Cond.code ({ cls := "java/lang/StringUTF16", name := "putChar", desc := "([BII)V" } : Jvm.MethodName) jdk_52_method_4_code (3 : Nat) (Option.none : Option Jvm.ClassFile.FieldType)).before args0 about1 = true := code_word (m := ⟨9, 3⟩) (meth := k9m3) (c := k9c3) (by decide +kernel) rfl rfl rfl (by decide +kernel)
set_option maxRecDepth 65536 in
theorem w_c22 : (Jvm.Cond.code ({ cls := "java/lang/StringUTF16", name := "getChar", desc := "([BI)C" } : Jvm.MethodName) jdk_52_method_5_code (2 : Nat) (Option.some Jvm.ClassFile.FieldType.char)).before args0 about1 = true := code_word (m := ⟨9, 4⟩) (meth := k9m4) (c := k9c4) (by decide +kernel) rfl rfl rfl (by decide +kernel)
set_option maxRecDepth 65536 in
theorem w_c23 : (Jvm.Cond.code ({ cls := "java/lang/StringUTF16", name := "charAt", desc := "([BI)C" } : Jvm.MethodName) jdk_52_method_83_code (2 : Nat) (Option.some Jvm.ClassFile.FieldType.char)).before args0 about1 = true := code_word (m := ⟨9, 10⟩) (meth := k9m10) (c := k9c10) (by decide +kernel) rfl rfl rfl (by decide +kernel)
set_option maxRecDepth 65536 in
theorem w_c24 : (Jvm.Cond.code ({ cls := "java/lang/StringUTF16", name := "checkIndex", desc := "(I[B)V" } : Jvm.MethodName) jdk_52_method_91_code (2 : Nat) (Option.none : Option Jvm.ClassFile.FieldType)).before args0 about1 = true := code_word (m := ⟨9, 11⟩) (meth := k9m11) (c := k9c11) (by decide +kernel) rfl rfl rfl (by decide +kernel)
set_option maxRecDepth 65536 in
theorem w_c25 : (Jvm.Cond.code ({ cls := "java/lang/StringUTF16", name := "length", desc := "([B)I" } : Jvm.MethodName) jdk_52_method_6_code (1 : Nat) (Option.some Jvm.ClassFile.FieldType.int)).before args0 about1 = true := code_word (m := ⟨9, 5⟩) (meth := k9m5) (c := k9c5) (by decide +kernel) rfl rfl rfl (by decide +kernel)
def codes1 : List Jvm.Cond := [Jvm.Cond.code x code maxLocals ret, Jvm.Cond.code ({ cls := "java/lang/String", name := "<init>", desc := "([C)V" } : Jvm.MethodName) jdk_42_method_3_code (2 : Nat) (Option.none : Option Jvm.ClassFile.FieldType), Jvm.Cond.code ({ cls := "java/lang/String", name := "<init>", desc := "([CIILjava/lang/Void;)V" } : Jvm.MethodName) jdk_42_method_149_code (6 : Nat) (Option.none : Option Jvm.ClassFile.FieldType), Jvm.Cond.code ({ cls := "java/lang/Object", name := "<init>", desc := "()V" } : Jvm.MethodName) object_method_1_code (1 : Nat) (Option.none : Option Jvm.ClassFile.FieldType), Jvm.Cond.code ({ cls := "com/example/chanticleer/chanticleer/engine/Names", name := "isName", desc := "(Ljava/lang/String;)Z" } : Jvm.MethodName) prog_33_method_2_code (2 : Nat) (Option.some Jvm.ClassFile.FieldType.boolean), Jvm.Cond.code ({ cls := "java/lang/String", name := "isEmpty", desc := "()Z" } : Jvm.MethodName) jdk_42_method_55_code (1 : Nat) (Option.some Jvm.ClassFile.FieldType.boolean), Jvm.Cond.code ({ cls := "java/lang/StringUTF16", name := "compress", desc := "([CII)[B" } : Jvm.MethodName) jdk_52_method_16_code (6 : Nat) (Option.some (Jvm.ClassFile.FieldType.array Jvm.ClassFile.FieldType.byte)), Jvm.Cond.code ({ cls := "java/lang/StringUTF16", name := "compress", desc := "([CI[BII)I" } : Jvm.MethodName) jdk_52_method_21_code (7 : Nat) (Option.some Jvm.ClassFile.FieldType.int), Jvm.Cond.code ({ cls := "java/lang/StringUTF16", name := "coderFromArrayLen", desc := "([BI)B" } : Jvm.MethodName) jdk_52_method_15_code (2 : Nat) (Option.some Jvm.ClassFile.FieldType.byte), Jvm.Cond.code ({ cls := "com/example/chanticleer/chanticleer/engine/NamesIsNamePinLaw", name := "ok", desc := "(C)Z" } : Jvm.MethodName) method_2_code (1 : Nat) (Option.some Jvm.ClassFile.FieldType.boolean), Jvm.Cond.code ({ cls := "java/lang/String", name := "length", desc := "()I" } : Jvm.MethodName) jdk_42_method_54_code (1 : Nat) (Option.some Jvm.ClassFile.FieldType.int), Jvm.Cond.code ({ cls := "java/lang/String", name := "coder", desc := "()B" } : Jvm.MethodName) jdk_42_method_152_code (1 : Nat) (Option.some Jvm.ClassFile.FieldType.byte), Jvm.Cond.code ({ cls := "java/lang/String", name := "charAt", desc := "(I)C" } : Jvm.MethodName) jdk_42_method_56_code (2 : Nat) (Option.some Jvm.ClassFile.FieldType.char), Jvm.Cond.code ({ cls := "java/lang/String", name := "isLatin1", desc := "()Z" } : Jvm.MethodName) jdk_42_method_154_code (1 : Nat) (Option.some Jvm.ClassFile.FieldType.boolean), Jvm.Cond.code ({ cls := "java/lang/StringLatin1", name := "charAt", desc := "([BI)C" } : Jvm.MethodName) jdk_43_method_2_code (2 : Nat) (Option.some Jvm.ClassFile.FieldType.char), Jvm.Cond.code ({ cls := "java/lang/String", name := "checkIndex", desc := "(II)V" } : Jvm.MethodName) jdk_42_method_155_code (2 : Nat) (Option.none : Option Jvm.ClassFile.FieldType), Jvm.Cond.code ({ cls := "jdk/internal/util/Preconditions", name := "checkIndex", desc := "(IILjava/util/function/BiFunction;)I" } : Jvm.MethodName) jdk_41_method_11_code (3 : Nat) (Option.some Jvm.ClassFile.FieldType.int), Jvm.Cond.code ({ cls := "com/example/chanticleer/chanticleer/engine/Names", name := "isNameCharacter", desc := "(C)Z" } : Jvm.MethodName) prog_33_method_3_code (1 : Nat) (Option.some Jvm.ClassFile.FieldType.boolean), Jvm.Cond.code ({ cls := "java/lang/StringUTF16", name := "toBytes", desc := "([CII)[B" } : Jvm.MethodName) jdk_52_method_14_code (5 : Nat) (Option.some (Jvm.ClassFile.FieldType.array Jvm.ClassFile.FieldType.byte)), Jvm.Cond.code ({ cls := "java/lang/StringUTF16", name := "newBytesFor", desc := "(I)[B" } : Jvm.MethodName) jdk_52_method_2_code (1 : Nat) (Option.some (Jvm.ClassFile.FieldType.array Jvm.ClassFile.FieldType.byte)), Jvm.Cond.code ({ cls := "java/lang/StringUTF16", name := "newBytesLength", desc := "(I)I" } : Jvm.MethodName) jdk_52_method_3_code (1 : Nat) (Option.some Jvm.ClassFile.FieldType.int), Jvm.Cond.code ({ cls := "java/lang/StringUTF16", name := "putChar", desc := "([BII)V" } : Jvm.MethodName) jdk_52_method_4_code (3 : Nat) (Option.none : Option Jvm.ClassFile.FieldType), Jvm.Cond.code ({ cls := "java/lang/StringUTF16", name := "getChar", desc := "([BI)C" } : Jvm.MethodName) jdk_52_method_5_code (2 : Nat) (Option.some Jvm.ClassFile.FieldType.char), Jvm.Cond.code ({ cls := "java/lang/StringUTF16", name := "charAt", desc := "([BI)C" } : Jvm.MethodName) jdk_52_method_83_code (2 : Nat) (Option.some Jvm.ClassFile.FieldType.char), Jvm.Cond.code ({ cls := "java/lang/StringUTF16", name := "checkIndex", desc := "(I[B)V" } : Jvm.MethodName) jdk_52_method_91_code (2 : Nat) (Option.none : Option Jvm.ClassFile.FieldType), Jvm.Cond.code ({ cls := "java/lang/StringUTF16", name := "length", desc := "([B)I" } : Jvm.MethodName) jdk_52_method_6_code (1 : Nat) (Option.some Jvm.ClassFile.FieldType.int)]
set_option maxRecDepth 65536 in
theorem codes_eq : words1.filter isCode = codes1 := rfl
theorem w_codes : ∀ c ∈ words1.filter isCode, c.before args0 about1 = true := by
  rw [codes_eq]
  intro c hc
  simp only [codes1, List.mem_cons, List.not_mem_nil, or_false] at hc
  rcases hc with rfl | rfl | rfl | rfl | rfl | rfl | rfl | rfl | rfl | rfl | rfl | rfl | rfl | rfl | rfl | rfl | rfl | rfl | rfl | rfl | rfl | rfl | rfl | rfl | rfl | rfl
  · exact w_c0
  · exact w_c1
  · exact w_c2
  · exact w_c3
  · exact w_c4
  · exact w_c5
  · exact w_c6
  · exact w_c7
  · exact w_c8
  · exact w_c9
  · exact w_c10
  · exact w_c11
  · exact w_c12
  · exact w_c13
  · exact w_c14
  · exact w_c15
  · exact w_c16
  · exact w_c17
  · exact w_c18
  · exact w_c19
  · exact w_c20
  · exact w_c21
  · exact w_c22
  · exact w_c23
  · exact w_c24
  · exact w_c25
set_option maxRecDepth 65536 in
theorem w_t1 : (words1.take 24).all (fun c => isCode c || c.before args0 about1) = true := by decide +kernel
set_option maxRecDepth 65536 in
theorem w_t2 : ((words1.drop 24).take 24).all (fun c => isCode c || c.before args0 about1) = true := by decide +kernel
set_option maxRecDepth 65536 in
theorem w_t3 : (((words1.drop 24).drop 24).take 24).all (fun c => isCode c || c.before args0 about1) = true := by decide +kernel
set_option maxRecDepth 65536 in
theorem w_t4 : ((((words1.drop 24).drop 24).drop 24).take 24).all (fun c => isCode c || c.before args0 about1) = true := by decide +kernel
set_option maxRecDepth 65536 in
theorem w_t5 : ((((words1.drop 24).drop 24).drop 24).drop 24).all (fun c => isCode c || c.before args0 about1) = true := by decide +kernel
theorem w_tables : (allAtoms (Jvm.Cond.code x code maxLocals ret :: tables_1)).before args0 about1 = true := by
  rw [allAtoms_all]
  show words1.all (fun c => c.before args0 about1) = true
  refine all_split ?_ w_codes
  rw [← List.take_append_drop 24 words1, List.all_append, w_t1, ← List.take_append_drop 24 (words1.drop 24), List.all_append, w_t2, ← List.take_append_drop 24 ((words1.drop 24).drop 24), List.all_append, w_t3, ← List.take_append_drop 24 (((words1.drop 24).drop 24).drop 24), List.all_append, w_t4, w_t5]
  rfl
set_option maxRecDepth 65536 in
theorem w_rest : rest_1_c.before args0 about1 = true := by decide +kernel
set_option maxRecDepth 65536 in
theorem w_case : (Jvm.Cond.and given_1 narrow_1).before args0 about1 = true := by decide +kernel
set_option maxRecDepth 65536 in
theorem w_consts : constsHeld consts_1 about1 := Jvm.Lit.constsHeldB_iff.mp (by decide +kernel)
theorem w_applies : (headSpec (Jvm.Cond.code x code maxLocals ret :: tables_1) room_1).applies x e0.platform about1 = true :=
  (Spec.applies_iff w_frames).mpr ⟨w_running, w_runnable, w_alone, w_named, w_hears, w_ripe, w_room, w_tables⟩
theorem atStart : AtStart classFile x code maxLocals ret World_1 tables_1 room_1 Calls_1 rest_1 Pre_1 launch0 p0 e0 about1 theMethod args0 below0 :=
  ⟨lists_1, trivial, launch0.admits_env _ _ _, launch0.least_env, fairChoices_fair.cas, fairChoices_fair.clock, w_frames, w_args, w_heap, w_applies, ⟨w_consts, trivial⟩, w_rest, w_case⟩
end start1
theorem witness_1 : WitnessClaimed_1 := ⟨start1.p0, start1.e0, start1.about1, start1.theMethod, start1.args0, start1.below0, start1.atStart⟩
end Jvm.Pilot.@@N@@
