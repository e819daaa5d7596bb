import JvmDerived
import JvmDerived.Pilot.@@N@@Statement
import JvmDerived.Pilot.@@N@@Code
set_option linter.unusedVariables false
set_option linter.unusedSimpArgs false
namespace Jvm.Pilot.@@N@@
open Jvm Jvm.ClassFile Sem Op Lib Jvm.Free Jvm.Stand Jvm.LawKit Jvm.RoadKit Bundle Jvm.Pilot.@@N@@.Jvm.D
section WK
/-! A walk's standing goal in one word: wkP says that from this frame over this heap the body ends as Q says. -/
abbrev EL : List (String × Nat) := consts_1
abbrev wkB : Type := MethodName × ByteArray × Nat × Option FieldType
/-- tables and frames are known (what a stack trace asks), and what stood at the start stands at this body's start -/
def wkK (vm : Vm) (below : List Frame) : Prop := vm.MethodsKnown ∧ vm.FramesKnown below
theorem wkK.alike {vm vm' : Vm} {below : List Frame} (h : vm.Alike vm') (q : wkK vm below) : wkK vm' below := ⟨Vm.MethodsKnown.alikeC h q.1, Vm.FramesKnown.alikeC h q.2⟩
/-- the cells that may be written: made since the case's start, no literal's, made by this body or handed in as such -/
def wkSf (Z : State) (vm : Vm) (h hs : Heap) (w0 ws : List Addr) : Prop := ∀ x ∈ ws, Z.heap.size ≤ x ∧ x < h.size ∧ Safe Z EL vm h x ∧ (x ∈ w0 ∨ hs.size ≤ x)
def wkAt (p : Program) (l : Launch) (e : Env) (R : Room) (s : State) (m : MethodId) (args : Array Value) (below : List Frame) (meth : Method) (c : Code) (Z : State) (B : wkB) (hs : Heap) (w0 ws : List Addr) (h : Heap) (k n : Nat) (vm0 : Vm) (k0 : Nat) (T : State) (locs : List Loc) : Prop :=
  (p.tables.exec = Jvm.exec ∧ c.code = B.2.1 ∧ c.maxLocals = B.2.2.1 ∧ meth.sig.returnType = B.2.2.2 ∧ meth.locks = false ∧ meth.name = B.1.name ∧ wkK s.vm below ∧ Ext Z.heap s.heap) ∧
  Stand p l e R (s.setVm vm0) m args below meth c T locs k n ∧ T.heap = h ∧ (s.Since vm0 k0 ∧ k0 ≤ h.size) ∧ Z.Warmed39 vm0 ∧ vm0.findClass B.1.cls = some m.cls ∧ CHr Z EL s.vm s.heap vm0 h ∧ Fr Z.heap.size locs ∧ Old Z Z.heap.size h ∧ Keep hs h w0 ∧ wkSf Z vm0 h hs w0 ws
def wkEnd (R : Room) (s Z : State) (hs : Heap) (w0 : List Addr) (Q : Option Value → Heap → List Addr → Prop) (U : State) (o : Outcome) : Prop :=
  ∃ v L, o = .returned v ∧ (∃ os, Q v U.heap os ∧ Keep hs U.heap w0 ∧ Fr Z.heap.size L ∧ Old Z Z.heap.size U.heap ∧ wkSf Z U.vm U.heap hs w0 os) ∧ CHr Z EL s.vm s.heap U.vm U.heap ∧ ReturnedEndW s o U L R.cells R.slots
def wkP (l : Launch) (Z : State) (B : wkB) (R : Room) (hs : Heap) (w0 : List Addr) (Q : Option Value → Heap → List Addr → Prop) (ws : List Addr) (h : Heap) (k n pc : Nat) (Ls : Array Slot) (st : List Value) : Prop :=
  ∀ (p : Program) (e : Env) (s : State) (m : MethodId) (args : Array Value) (below : List Frame) (meth : Method) (c : Code) (vm0 : Vm) (k0 : Nat) (T : State) (locs : List Loc), wkAt p l e R s m args below meth c Z B hs w0 ws h k n vm0 k0 T locs →
    ∃ (U : State) (o : Outcome), Steps p.tables e below (T.setTop (mkF m pc Ls st)) U ∧ U.status = .running ∧ Ended U below o ∧ wkEnd R s Z hs w0 Q U o
/-- a body's contract: with these arguments over this heap, writing at most w0 of what stood, it returns as Q says -/
def wkM (l : Launch) (Z : State) (B : wkB) (rm : Room) (as : Array Value) (h : Heap) (w0 : List Addr) (Q : Option Value → Heap → List Addr → Prop) : Prop :=
  Old Z Z.heap.size h → (∀ x ∈ w0, Z.heap.size ≤ x ∧ x < h.size) →
  MetFree l B.1 (head1 [Cond.code B.1 B.2.1 B.2.2.1 B.2.2.2] rm) (fun a U => a = as ∧ Z.Warmed39 U.vm ∧ U.heap = h ∧ CHv Z EL U.vm h ∧ ∀ x ∈ w0, Safe Z EL U.vm h x) (fun _ _ bl s _ => wkK s.vm bl) (fun _ U o U' => wkEnd rm U Z h w0 Q U' o)
section Rules
variable {l : Launch} {Z : State} {B : wkB} {R : Room} {hs : Heap} {w0 : List Addr} {Q : Option Value → Heap → List Addr → Prop} {ws : List Addr} {h : Heap} {k n pc : Nat} {Ls : Array Slot} {st : List Value} {a0 : Array Value}
theorem wkP.pure {pc' : Nat} {Ls' : Array Slot} {st' : List Value}
    (hst : ∀ (p : Program) (e : Env) (s : State) (m : MethodId) (args : Array Value) (below : List Frame) (meth : Method) (c : Code) (vm0 : Vm) (T : State) (locs : List Loc), p.tables.exec = Jvm.exec → c.code = B.2.1 → Stand p l e R (s.setVm vm0) m args below meth c T locs k n → ∀ target, Steps p.tables e below (T.setTop (mkF m pc' Ls' st')) target → Steps p.tables e below (T.setTop (mkF m pc Ls st)) target)
    (K : wkP l Z B R hs w0 Q ws h k n pc' Ls' st') : wkP l Z B R hs w0 Q ws h k n pc Ls st := by
  intro p e s m args below meth c vm0 k0 T locs A
  obtain ⟨U, o, q, r⟩ := K p e s m args below meth c vm0 k0 T locs A
  exact ⟨U, o, hst p e s m args below meth c vm0 T locs A.1.1 A.1.2.1 A.2.1 U q, r⟩
theorem wkP.iload (pc' : Nat) {j : Nat} {v : Int32} (hd : decode B.2.1 pc = .ok (.iload j, 2)) (hl : Ls[j]? = some (.val (.int v))) (hp : pc + 2 = pc') (K : wkP l Z B R hs w0 Q ws h k n pc' Ls (.int v :: st)) : wkP l Z B R hs w0 Q ws h k n pc Ls st := by
  subst hp; exact .pure (fun p e s m args below meth c vm0 T locs hx hby X t q => XS.iload X.here hx rfl (hb hby hd) hl q) K
theorem wkP.iloadN (pc' : Nat) {j : Fin 4} {v : Int32} (hd : decode B.2.1 pc = .ok (.iload_n j, 1)) (hl : Ls[j.val]? = some (.val (.int v))) (hp : pc + 1 = pc') (K : wkP l Z B R hs w0 Q ws h k n pc' Ls (.int v :: st)) : wkP l Z B R hs w0 Q ws h k n pc Ls st := by
  subst hp; exact .pure (fun p e s m args below meth c vm0 T locs hx hby X t q => XS.iloadN X.here hx rfl (hb hby hd) hl q) K
theorem wkP.aload (pc' : Nat) {j : Nat} {v : Value} (hd : decode B.2.1 pc = .ok (.aload j, 2)) (hl : Ls[j]? = some (.val v)) (hv : v.isRef = true) (hp : pc + 2 = pc') (K : wkP l Z B R hs w0 Q ws h k n pc' Ls (v :: st)) : wkP l Z B R hs w0 Q ws h k n pc Ls st := by
  subst hp; exact .pure (fun p e s m args below meth c vm0 T locs hx hby X t q => XS.aload X.here hx rfl (hb hby hd) hl hv q) K
theorem wkP.aloadN (pc' : Nat) {j : Fin 4} {v : Value} (hd : decode B.2.1 pc = .ok (.aload_n j, 1)) (hl : Ls[j.val]? = some (.val v)) (hv : v.isRef = true) (hp : pc + 1 = pc') (K : wkP l Z B R hs w0 Q ws h k n pc' Ls (v :: st)) : wkP l Z B R hs w0 Q ws h k n pc Ls st := by
  subst hp; exact .pure (fun p e s m args below meth c vm0 T locs hx hby X t q => XS.aloadN X.here hx rfl (hb hby hd) hl hv q) K
theorem wkP.lload (pc' : Nat) {j : Nat} {v : Int64} (hd : decode B.2.1 pc = .ok (.lload j, 2)) (hl : Ls[j]? = some (.val (.long v))) (hp : pc + 2 = pc') (K : wkP l Z B R hs w0 Q ws h k n pc' Ls (.long v :: st)) : wkP l Z B R hs w0 Q ws h k n pc Ls st := by
  subst hp; exact .pure (fun p e s m args below meth c vm0 T locs hx hby X t q => XS.lload X.here hx rfl (hb hby hd) hl q) K
theorem wkP.lloadN (pc' : Nat) {j : Fin 4} {v : Int64} (hd : decode B.2.1 pc = .ok (.lload_n j, 1)) (hl : Ls[j.val]? = some (.val (.long v))) (hp : pc + 1 = pc') (K : wkP l Z B R hs w0 Q ws h k n pc' Ls (.long v :: st)) : wkP l Z B R hs w0 Q ws h k n pc Ls st := by
  subst hp; exact .pure (fun p e s m args below meth c vm0 T locs hx hby X t q => XS.lloadN X.here hx rfl (hb hby hd) hl q) K
theorem wkP.iconst (pc' : Nat) {i : Int} (v : Int32) (hd : decode B.2.1 pc = .ok (.iconst i, 1)) (hv : Int32.ofInt i = v) (hp : pc + 1 = pc') (K : wkP l Z B R hs w0 Q ws h k n pc' Ls (.int v :: st)) : wkP l Z B R hs w0 Q ws h k n pc Ls st := by
  subst hp hv; exact .pure (fun p e s m args below meth c vm0 T locs hx hby X t q => XS.iconst X.here hx rfl (hb hby hd) q) K
theorem wkP.bipush (pc' : Nat) {i : Int} (v : Int32) (hd : decode B.2.1 pc = .ok (.bipush i, 2)) (hv : (Int8.ofInt i).toInt32 = v) (hp : pc + 2 = pc') (K : wkP l Z B R hs w0 Q ws h k n pc' Ls (.int v :: st)) : wkP l Z B R hs w0 Q ws h k n pc Ls st := by
  subst hp hv; exact .pure (fun p e s m args below meth c vm0 T locs hx hby X t q => XS.bipush X.here hx rfl (hb hby hd) q) K
theorem wkP.sipush (pc' : Nat) {i : Int} (v : Int32) (hd : decode B.2.1 pc = .ok (.sipush i, 3)) (hv : (Int16.ofInt i).toInt32 = v) (hp : pc + 3 = pc') (K : wkP l Z B R hs w0 Q ws h k n pc' Ls (.int v :: st)) : wkP l Z B R hs w0 Q ws h k n pc Ls st := by
  subst hp hv; exact .pure (fun p e s m args below meth c vm0 T locs hx hby X t q => XS.sipush X.here hx rfl (hb hby hd) q) K
theorem wkP.anull (pc' : Nat) (hd : decode B.2.1 pc = .ok (.aconst_null, 1)) (hp : pc + 1 = pc') (K : wkP l Z B R hs w0 Q ws h k n pc' Ls (.null :: st)) : wkP l Z B R hs w0 Q ws h k n pc Ls st := by
  subst hp; exact .pure (fun p e s m args below meth c vm0 T locs hx hby X t q => XS.aconstNull X.here hx rfl (hb hby hd) q) K
theorem wkP.istore (pc' : Nat) {j : Nat} {x : Int32} (Ls' : Array Slot) (hd : decode B.2.1 pc = .ok (.istore j, 2)) (hl : storeLocals Ls j (.int x) = some Ls') (hp : pc + 2 = pc') (K : wkP l Z B R hs w0 Q ws h k n pc' Ls' st) : wkP l Z B R hs w0 Q ws h k n pc Ls (.int x :: st) := by
  subst hp; exact .pure (fun p e s m args below meth c vm0 T locs hx hby X t q => XS.istore X.here hx rfl (hb hby hd) rfl hl q) K
theorem wkP.istoreN (pc' : Nat) {j : Fin 4} {x : Int32} (Ls' : Array Slot) (hd : decode B.2.1 pc = .ok (.istore_n j, 1)) (hl : storeLocals Ls j.val (.int x) = some Ls') (hp : pc + 1 = pc') (K : wkP l Z B R hs w0 Q ws h k n pc' Ls' st) : wkP l Z B R hs w0 Q ws h k n pc Ls (.int x :: st) := by
  subst hp; exact .pure (fun p e s m args below meth c vm0 T locs hx hby X t q => XS.istoreN X.here hx rfl (hb hby hd) rfl hl q) K
theorem wkP.astore (pc' : Nat) {j : Nat} {x : Value} (Ls' : Array Slot) (hd : decode B.2.1 pc = .ok (.astore j, 2)) (hv : x.isRef = true) (hl : storeLocals Ls j x = some Ls') (hp : pc + 2 = pc') (K : wkP l Z B R hs w0 Q ws h k n pc' Ls' st) : wkP l Z B R hs w0 Q ws h k n pc Ls (x :: st) := by
  subst hp; exact .pure (fun p e s m args below meth c vm0 T locs hx hby X t q => XS.astore X.here hx rfl (hb hby hd) rfl hv hl q) K
theorem wkP.astoreN (pc' : Nat) {j : Fin 4} {x : Value} (Ls' : Array Slot) (hd : decode B.2.1 pc = .ok (.astore_n j, 1)) (hv : x.isRef = true) (hl : storeLocals Ls j.val x = some Ls') (hp : pc + 1 = pc') (K : wkP l Z B R hs w0 Q ws h k n pc' Ls' st) : wkP l Z B R hs w0 Q ws h k n pc Ls (x :: st) := by
  subst hp; exact .pure (fun p e s m args below meth c vm0 T locs hx hby X t q => XS.astoreN X.here hx rfl (hb hby hd) rfl hv hl q) K
theorem wkP.lstore (pc' : Nat) {j : Nat} {x : Int64} (Ls' : Array Slot) (hd : decode B.2.1 pc = .ok (.lstore j, 2)) (hl : storeLocals Ls j (.long x) = some Ls') (hp : pc + 2 = pc') (K : wkP l Z B R hs w0 Q ws h k n pc' Ls' st) : wkP l Z B R hs w0 Q ws h k n pc Ls (.long x :: st) := by
  subst hp; exact .pure (fun p e s m args below meth c vm0 T locs hx hby X t q => XS.lstore X.here hx rfl (hb hby hd) rfl hl q) K
theorem wkP.iinc (pc' : Nat) {j : Nat} {cst : Int} {x : Int32} (y : Int32) (Ls' : Array Slot) (hd : decode B.2.1 pc = .ok (.iinc j cst, 3)) (hl : Ls[j]? = some (.val (.int x))) (hy : x + Int32.ofInt cst = y) (hl' : storeLocals Ls j (.int y) = some Ls') (hp : pc + 3 = pc') (K : wkP l Z B R hs w0 Q ws h k n pc' Ls' st) : wkP l Z B R hs w0 Q ws h k n pc Ls st := by
  subst hp hy; exact .pure (fun p e s m args below meth c vm0 T locs hx hby X t q => XS.iinc X.here hx rfl (hb hby hd) hl hl' q) K
theorem wkP.dup (pc' : Nat) {x : Value} (hd : decode B.2.1 pc = .ok (.dup, 1)) (hc : x.category = 1) (hp : pc + 1 = pc') (K : wkP l Z B R hs w0 Q ws h k n pc' Ls (x :: x :: st)) : wkP l Z B R hs w0 Q ws h k n pc Ls (x :: st) := by
  subst hp; exact .pure (fun p e s m args below meth c vm0 T locs hx hby X t q => XS.dup X.here hx rfl (hb hby hd) rfl hc q) K
theorem wkP.dupX1 (pc' : Nat) {x y : Value} (hd : decode B.2.1 pc = .ok (.dup_x1, 1)) (hc : x.category = 1) (hc' : y.category = 1) (hp : pc + 1 = pc') (K : wkP l Z B R hs w0 Q ws h k n pc' Ls (x :: y :: x :: st)) : wkP l Z B R hs w0 Q ws h k n pc Ls (x :: y :: st) := by
  subst hp; exact .pure (fun p e s m args below meth c vm0 T locs hx hby X t q => XS.dupX1 X.here hx rfl (hb hby hd) rfl hc hc' q) K
theorem wkP.pop (pc' : Nat) {x : Value} (hd : decode B.2.1 pc = .ok (.pop, 1)) (hc : x.category = 1) (hp : pc + 1 = pc') (K : wkP l Z B R hs w0 Q ws h k n pc' Ls st) : wkP l Z B R hs w0 Q ws h k n pc Ls (x :: st) := by
  subst hp; exact .pure (fun p e s m args below meth c vm0 T locs hx hby X t q => XS.pop X.here hx rfl (hb hby hd) rfl hc q) K
theorem wkP.iadd (pc' : Nat) {x y : Int32} (v : Int32) (hd : decode B.2.1 pc = .ok (.iadd, 1)) (hv : x + y = v) (hp : pc + 1 = pc') (K : wkP l Z B R hs w0 Q ws h k n pc' Ls (.int v :: st)) : wkP l Z B R hs w0 Q ws h k n pc Ls (.int y :: .int x :: st) := by
  subst hp hv; exact .pure (fun p e s m args below meth c vm0 T locs hx hby X t q => XS.iadd X.here hx rfl (hb hby hd) rfl q) K
theorem wkP.isub (pc' : Nat) {x y : Int32} (v : Int32) (hd : decode B.2.1 pc = .ok (.isub, 1)) (hv : x - y = v) (hp : pc + 1 = pc') (K : wkP l Z B R hs w0 Q ws h k n pc' Ls (.int v :: st)) : wkP l Z B R hs w0 Q ws h k n pc Ls (.int y :: .int x :: st) := by
  subst hp hv; exact .pure (fun p e s m args below meth c vm0 T locs hx hby X t q => XS.isub X.here hx rfl (hb hby hd) rfl q) K
theorem wkP.imul (pc' : Nat) {x y : Int32} (v : Int32) (hd : decode B.2.1 pc = .ok (.imul, 1)) (hv : x * y = v) (hp : pc + 1 = pc') (K : wkP l Z B R hs w0 Q ws h k n pc' Ls (.int v :: st)) : wkP l Z B R hs w0 Q ws h k n pc Ls (.int y :: .int x :: st) := by
  subst hp hv; exact .pure (fun p e s m args below meth c vm0 T locs hx hby X t q => XS.imul X.here hx rfl (hb hby hd) rfl q) K
theorem wkP.idiv (pc' : Nat) {x y : Int32} (v : Int32) (hd : decode B.2.1 pc = .ok (.idiv, 1)) (hy : y ≠ 0) (hv : x / y = v) (hp : pc + 1 = pc') (K : wkP l Z B R hs w0 Q ws h k n pc' Ls (.int v :: st)) : wkP l Z B R hs w0 Q ws h k n pc Ls (.int y :: .int x :: st) := by
  subst hp hv; exact .pure (fun p e s m args below meth c vm0 T locs hx hby X t q => XS.idiv X.here hx rfl (hb hby hd) rfl hy q) K
theorem wkP.irem (pc' : Nat) {x y : Int32} (v : Int32) (hd : decode B.2.1 pc = .ok (.irem, 1)) (hy : y ≠ 0) (hv : x % y = v) (hp : pc + 1 = pc') (K : wkP l Z B R hs w0 Q ws h k n pc' Ls (.int v :: st)) : wkP l Z B R hs w0 Q ws h k n pc Ls (.int y :: .int x :: st) := by
  subst hp hv; exact .pure (fun p e s m args below meth c vm0 T locs hx hby X t q => iremM X hx rfl (hb hby hd) rfl hy q) K
theorem wkP.iand (pc' : Nat) {x y : Int32} (v : Int32) (hd : decode B.2.1 pc = .ok (.iand, 1)) (hv : x &&& y = v) (hp : pc + 1 = pc') (K : wkP l Z B R hs w0 Q ws h k n pc' Ls (.int v :: st)) : wkP l Z B R hs w0 Q ws h k n pc Ls (.int y :: .int x :: st) := by
  subst hp hv; exact .pure (fun p e s m args below meth c vm0 T locs hx hby X t q => XS.iand X.here hx rfl (hb hby hd) rfl q) K
theorem wkP.ior (pc' : Nat) {x y : Int32} (v : Int32) (hd : decode B.2.1 pc = .ok (.ior, 1)) (hv : x ||| y = v) (hp : pc + 1 = pc') (K : wkP l Z B R hs w0 Q ws h k n pc' Ls (.int v :: st)) : wkP l Z B R hs w0 Q ws h k n pc Ls (.int y :: .int x :: st) := by
  subst hp hv; exact .pure (fun p e s m args below meth c vm0 T locs hx hby X t q => XS.ior X.here hx rfl (hb hby hd) rfl q) K
theorem wkP.ishl (pc' : Nat) {x y : Int32} (v : Int32) (hd : decode B.2.1 pc = .ok (.ishl, 1)) (hv : x <<< (y &&& 31) = v) (hp : pc + 1 = pc') (K : wkP l Z B R hs w0 Q ws h k n pc' Ls (.int v :: st)) : wkP l Z B R hs w0 Q ws h k n pc Ls (.int y :: .int x :: st) := by
  subst hp hv; exact .pure (fun p e s m args below meth c vm0 T locs hx hby X t q => XS.ishl X.here hx rfl (hb hby hd) rfl q) K
theorem wkP.ishr (pc' : Nat) {x y : Int32} (v : Int32) (hd : decode B.2.1 pc = .ok (.ishr, 1)) (hv : x >>> (y &&& 31) = v) (hp : pc + 1 = pc') (K : wkP l Z B R hs w0 Q ws h k n pc' Ls (.int v :: st)) : wkP l Z B R hs w0 Q ws h k n pc Ls (.int y :: .int x :: st) := by
  subst hp hv; exact .pure (fun p e s m args below meth c vm0 T locs hx hby X t q => XS.ishr X.here hx rfl (hb hby hd) rfl q) K
theorem wkP.iushr (pc' : Nat) {x y : Int32} (v : Int32) (hd : decode B.2.1 pc = .ok (.iushr, 1)) (hv : (x.toUInt32 >>> (y &&& 31).toUInt32).toInt32 = v) (hp : pc + 1 = pc') (K : wkP l Z B R hs w0 Q ws h k n pc' Ls (.int v :: st)) : wkP l Z B R hs w0 Q ws h k n pc Ls (.int y :: .int x :: st) := by
  subst hp hv; exact .pure (fun p e s m args below meth c vm0 T locs hx hby X t q => XS.iushr X.here hx rfl (hb hby hd) rfl q) K
theorem wkP.i2b (pc' : Nat) {x : Int32} (v : Int32) (hd : decode B.2.1 pc = .ok (.i2b, 1)) (hv : x.toInt8.toInt32 = v) (hp : pc + 1 = pc') (K : wkP l Z B R hs w0 Q ws h k n pc' Ls (.int v :: st)) : wkP l Z B R hs w0 Q ws h k n pc Ls (.int x :: st) := by
  subst hp hv; exact .pure (fun p e s m args below meth c vm0 T locs hx hby X t q => XS.i2b X.here hx rfl (hb hby hd) rfl q) K
theorem wkP.i2c (pc' : Nat) {x : Int32} (v : Int32) (hd : decode B.2.1 pc = .ok (.i2c, 1)) (hv : x.toUInt32.toUInt16.toUInt32.toInt32 = v) (hp : pc + 1 = pc') (K : wkP l Z B R hs w0 Q ws h k n pc' Ls (.int v :: st)) : wkP l Z B R hs w0 Q ws h k n pc Ls (.int x :: st) := by
  subst hp hv; exact .pure (fun p e s m args below meth c vm0 T locs hx hby X t q => XS.i2c X.here hx rfl (hb hby hd) rfl q) K
theorem wkP.i2l (pc' : Nat) {x : Int32} (v : Int64) (hd : decode B.2.1 pc = .ok (.i2l, 1)) (hv : x.toInt64 = v) (hp : pc + 1 = pc') (K : wkP l Z B R hs w0 Q ws h k n pc' Ls (.long v :: st)) : wkP l Z B R hs w0 Q ws h k n pc Ls (.int x :: st) := by
  subst hp hv; exact .pure (fun p e s m args below meth c vm0 T locs hx hby X t q => XS.i2l X.here hx rfl (hb hby hd) rfl q) K
theorem wkP.l2i (pc' : Nat) {x : Int64} (v : Int32) (hd : decode B.2.1 pc = .ok (.l2i, 1)) (hv : x.toInt32 = v) (hp : pc + 1 = pc') (K : wkP l Z B R hs w0 Q ws h k n pc' Ls (.int v :: st)) : wkP l Z B R hs w0 Q ws h k n pc Ls (.long x :: st) := by
  subst hp hv; exact .pure (fun p e s m args below meth c vm0 T locs hx hby X t q => XS.l2i X.here hx rfl (hb hby hd) rfl q) K
theorem wkP.lmul (pc' : Nat) {x y : Int64} (v : Int64) (hd : decode B.2.1 pc = .ok (.lmul, 1)) (hv : x * y = v) (hp : pc + 1 = pc') (K : wkP l Z B R hs w0 Q ws h k n pc' Ls (.long v :: st)) : wkP l Z B R hs w0 Q ws h k n pc Ls (.long y :: .long x :: st) := by
  subst hp hv; exact .pure (fun p e s m args below meth c vm0 T locs hx hby X t q => XS.lmul X.here hx rfl (hb hby hd) rfl q) K
theorem wkP.land (pc' : Nat) {x y : Int64} (v : Int64) (hd : decode B.2.1 pc = .ok (.land, 1)) (hv : x &&& y = v) (hp : pc + 1 = pc') (K : wkP l Z B R hs w0 Q ws h k n pc' Ls (.long v :: st)) : wkP l Z B R hs w0 Q ws h k n pc Ls (.long y :: .long x :: st) := by
  subst hp hv; exact .pure (fun p e s m args below meth c vm0 T locs hx hby X t q => XS.land X.here hx rfl (hb hby hd) rfl q) K
theorem wkP.lushr (pc' : Nat) {x : Int64} {y : Int32} (v : Int64) (hd : decode B.2.1 pc = .ok (.lushr, 1)) (hv : (x.toUInt64 >>> (y &&& 0x3f).toInt64.toUInt64).toInt64 = v) (hp : pc + 1 = pc') (K : wkP l Z B R hs w0 Q ws h k n pc' Ls (.long v :: st)) : wkP l Z B R hs w0 Q ws h k n pc Ls (.int y :: .long x :: st) := by
  subst hp hv; exact .pure (fun p e s m args below meth c vm0 T locs hx hby X t q => XS.lushr X.here hx rfl (hb hby hd) rfl q) K
theorem wkP.goto (pc' : Nat) {o : Int} (hd : decode B.2.1 pc = .ok (.goto o, 3)) (ho : 0 ≤ (pc : Int) + o) (hp : ((pc : Int) + o).toNat = pc') (K : wkP l Z B R hs w0 Q ws h k n pc' Ls st) : wkP l Z B R hs w0 Q ws h k n pc Ls st :=
  .pure (fun p e s m args below meth c vm0 T locs hx hby X t q => XS.goto X.here hx rfl (pc0 := pc) rfl (hb hby hd) ho hp q) K
/-- what a comparison's letters mean -/
abbrev wkC : ClassFile.Cond → Int32 → Int32 → Prop
  | .eq, x, y => x = y
  | .ne, x, y => ¬ x = y
  | .lt, x, y => x < y
  | .ge, x, y => ¬ x < y
  | .gt, x, y => y < x
  | .le, x, y => ¬ y < x
theorem wkC_t {cd : ClassFile.Cond} {x y : Int32} (q : wkC cd x y) : if_icmp.holds cd x y = true := by
  cases cd
  · exact (teq q).1
  · exact (feq q).2
  · exact (tlt q).1
  · exact (flt q).2.1
  · exact (tlt q).2.2.1
  · exact (flt q).2.2.2
theorem wkC_f {cd : ClassFile.Cond} {x y : Int32} (q : ¬ wkC cd x y) : if_icmp.holds cd x y = false := by
  cases cd
  · exact (feq q).1
  · exact (teq (Decidable.not_not.mp q)).2
  · exact (flt q).1
  · exact (tlt (Decidable.not_not.mp q)).2.1
  · exact (flt q).2.2.1
  · exact (tlt (Decidable.not_not.mp q)).2.2.2
theorem wkP.icmpT (pc' : Nat) {cd : ClassFile.Cond} {x y : Int32} {o : Int} (hd : decode B.2.1 pc = .ok (.if_icmp cd o, 3)) (q : wkC cd x y) (ho : 0 ≤ (pc : Int) + o) (hp : ((pc : Int) + o).toNat = pc') (K : wkP l Z B R hs w0 Q ws h k n pc' Ls st) : wkP l Z B R hs w0 Q ws h k n pc Ls (.int y :: .int x :: st) :=
  .pure (fun p e s m args below meth c vm0 T locs hx hby X t r => XS.icmpYes X.here hx rfl (pc0 := pc) rfl (hb hby hd) rfl (wkC_t q) ho hp r) K
theorem wkP.icmpF (pc' : Nat) {cd : ClassFile.Cond} {x y : Int32} {o : Int} (hd : decode B.2.1 pc = .ok (.if_icmp cd o, 3)) (q : ¬ wkC cd x y) (hp : pc + 3 = pc') (K : wkP l Z B R hs w0 Q ws h k n pc' Ls st) : wkP l Z B R hs w0 Q ws h k n pc Ls (.int y :: .int x :: st) := by
  subst hp; exact .pure (fun p e s m args below meth c vm0 T locs hx hby X t r => XS.icmpNo X.here hx rfl (hb hby hd) rfl (wkC_f q) r) K
theorem wkP.ifT (pc' : Nat) {cd : ClassFile.Cond} {x : Int32} {o : Int} (hd : decode B.2.1 pc = .ok (.ifCond cd o, 3)) (q : wkC cd x 0) (ho : 0 ≤ (pc : Int) + o) (hp : ((pc : Int) + o).toNat = pc') (K : wkP l Z B R hs w0 Q ws h k n pc' Ls st) : wkP l Z B R hs w0 Q ws h k n pc Ls (.int x :: st) :=
  .pure (fun p e s m args below meth c vm0 T locs hx hby X t r => XS.ifYes X.here hx rfl (pc0 := pc) rfl (hb hby hd) rfl ((if0 _ _).trans (wkC_t q)) ho hp r) K
theorem wkP.ifF (pc' : Nat) {cd : ClassFile.Cond} {x : Int32} {o : Int} (hd : decode B.2.1 pc = .ok (.ifCond cd o, 3)) (q : ¬ wkC cd x 0) (hp : pc + 3 = pc') (K : wkP l Z B R hs w0 Q ws h k n pc' Ls st) : wkP l Z B R hs w0 Q ws h k n pc Ls (.int x :: st) := by
  subst hp; exact .pure (fun p e s m args below meth c vm0 T locs hx hby X t r => XS.ifNo X.here hx rfl (hb hby hd) rfl ((if0 _ _).trans (wkC_f q)) r) K
theorem wkP.ifnullT (pc' : Nat) {o : Int} (hd : decode B.2.1 pc = .ok (.ifnull o, 3)) (ho : 0 ≤ (pc : Int) + o) (hp : ((pc : Int) + o).toNat = pc') (K : wkP l Z B R hs w0 Q ws h k n pc' Ls st) : wkP l Z B R hs w0 Q ws h k n pc Ls (.null :: st) :=
  .pure (fun p e s m args below meth c vm0 T locs hx hby X t r => XS.ifnullYes X.here hx rfl (pc0 := pc) rfl (hb hby hd) rfl ho hp r) K
theorem wkP.ifnullF (pc' : Nat) {o : Int} {a : Addr} (hd : decode B.2.1 pc = .ok (.ifnull o, 3)) (hp : pc + 3 = pc') (K : wkP l Z B R hs w0 Q ws h k n pc' Ls st) : wkP l Z B R hs w0 Q ws h k n pc Ls (.ref a :: st) := by
  subst hp; exact .pure (fun p e s m args below meth c vm0 T locs hx hby X t r => XS.ifnullNo X.here hx rfl (hb hby hd) rfl r) K
theorem wkP.ifnonnullT (pc' : Nat) {o : Int} {a : Addr} (hd : decode B.2.1 pc = .ok (.ifnonnull o, 3)) (ho : 0 ≤ (pc : Int) + o) (hp : ((pc : Int) + o).toNat = pc') (K : wkP l Z B R hs w0 Q ws h k n pc' Ls st) : wkP l Z B R hs w0 Q ws h k n pc Ls (.ref a :: st) :=
  .pure (fun p e s m args below meth c vm0 T locs hx hby X t r => XS.ifnonnullYes X.here hx rfl (pc0 := pc) rfl (hb hby hd) rfl ho hp r) K
theorem wkP.ifnonnullF (pc' : Nat) {o : Int} (hd : decode B.2.1 pc = .ok (.ifnonnull o, 3)) (hp : pc + 3 = pc') (K : wkP l Z B R hs w0 Q ws h k n pc' Ls st) : wkP l Z B R hs w0 Q ws h k n pc Ls (.null :: st) := by
  subst hp; exact .pure (fun p e s m args below meth c vm0 T locs hx hby X t r => XS.ifnonnullNo X.here hx rfl (hb hby hd) rfl r) K
theorem wkP.acmp (pc' : Nat) {cd : ACond} {x y : Value} {o : Int} (same : Bool) (hd : decode B.2.1 pc = .ok (.if_acmp cd o, 3)) (h1 : x.isRef = true) (h2 : y.isRef = true) (hq : decide (x = y) = same) (ho : 0 ≤ (pc : Int) + o) (hp : pc' = if acV cd same = true then ((pc : Int) + o).toNat else pc + 3) (K : wkP l Z B R hs w0 Q ws h k n pc' Ls st) : wkP l Z B R hs w0 Q ws h k n pc Ls (y :: x :: st) :=
  .pure (fun p e s m args below meth c vm0 T locs hx hby X t r => RoadKit.acmp X hx rfl h1 h2 (pc0 := pc) rfl (hb hby hd) rfl hq ho hp r) K
end Rules

section Facts
variable {Z : State} {h h' : Heap} {a b : Addr} {ty ty' : FieldType} {xs : List Int32} {ws : List Addr} {a0 : Array Value} {C D O n d : String} {v w : Value}
theorem nn0 {x : Nat} : x ∉ ([] : List Nat) := by simp
theorem nn1 {x y : Nat} (q : x ≠ y) : x ∉ [y] := by simpa using q
theorem nnS {x y : Nat} {L : List Nat} (q : x ≠ y) (r : x ∉ L) : x ∉ y :: L := by simpa using ⟨q, r⟩
/-- the array at a holds just these ints -/
def Ia (Z : State) (h : Heap) (a : Addr) (ty : FieldType) (xs : List Int32) : Prop := ∃ c : Cell, Arr Z h a c ty ∧ c.slots = (xs.map Value.int).toArray ∧ (∀ x ∈ xs, fits ty (.int x) = true) ∧ xs.length < 2 ^ 31
theorem exaLt (E : Exa Z h a C) : h.size > a := E.lt
theorem Ia.lt (F : Ia Z h a ty xs) : h.size > a := by obtain ⟨c, A, -⟩ := F; exact A.lt
theorem Ia.keep (F : Ia Z h a ty xs) (K : Keep h h' ws) (q : a ∉ ws) : Ia Z h' a ty xs := by
  obtain ⟨c, A, r⟩ := F; exact ⟨c, ⟨K.2.1 _ _ A.1 q, A.2⟩, r⟩
theorem Ia.len (F : Ia Z h a ty xs) : xs.length < 2 ^ 31 := by obtain ⟨c, -, -, -, r⟩ := F; exact r
theorem Ia.fit (F : Ia Z h a ty xs) : ∀ x ∈ xs, fits ty (.int x) = true := by obtain ⟨c, -, -, r, -⟩ := F; exact r
theorem Ia.of_arv {k : ClassId} {z : Int32} {vs : List Value} (F : Arv Z h a k ty z vs v) (e : vs = xs.map Value.int) (hl : z.toNatClampNeg = vs.length) : Ia Z h a ty xs := by
  obtain ⟨c, A, -, hs, hz, H, G⟩ := F
  subst e
  have hsz : c.slots.size = xs.length := by rw [hs, hl]; simp
  have hb := (back32 hz).2
  refine ⟨c, A, ?_, fun x hx => ?_, by rw [← hsz, hs]; exact hb⟩
  · refine Array.ext (by simpa using hsz) fun i h1 h2 => ?_
    have q := H i h1
    rw [Array.getElem?_eq_getElem h1] at q
    have h3 : i < xs.length := by omega
    simp [List.getD_eq_getElem?_getD, h3] at q ⊢
    exact q
  · obtain ⟨i, hi, rfl⟩ := List.getElem_of_mem hx
    have q := G i (by omega)
    simpa [List.getD_eq_getElem?_getD, hi] using q
theorem Ia.arv (F : Ia Z h a ty xs) : ∃ k, Arv Z h a k ty (Int32.ofNat xs.length) (xs.map Value.int) (.int 0) := by
  obtain ⟨c, A, e, f, r⟩ := F
  have q : (Int32.ofNat xs.length).toNatClampNeg = xs.length := clamp_of rfl r
  have sz : c.slots.size = xs.length := by rw [e]; simp
  refine ⟨c.cls, c, A, rfl, by rw [q, sz], ?_, fun i hi => ?_, fun i hi => ?_⟩
  · have := toInt_of (n := Int32.ofNat xs.length) rfl r
    rw [Int32.lt_iff_toInt_lt, this]; simp
  · rw [e]; simp [List.getD_eq_getElem?_getD, show i < xs.length by omega]
  · have h3 : i < xs.length := by omega
    simpa [List.getD_eq_getElem?_getD, h3] using f _ (List.getElem_mem h3)
theorem Ia.ne (F : Ia Z h a ty xs) {ys : List Int32} (G : Ia Z h b ty' ys) (q : ty ≠ ty') : a ≠ b := fun e => by
  subst e
  obtain ⟨c, A, -⟩ := F
  obtain ⟨c', A', -⟩ := G
  cases A.1.symm.trans A'.1
  obtain ⟨-, k1, q1, c1, r1⟩ := A.2.1
  obtain ⟨-, k2, q2, c2, r2⟩ := A'.2.1
  cases q1.symm.trans q2
  rw [r1] at r2
  injection r2 with _ r3
  exact q r3
theorem exaNeIa {kk : Nat} (E : Exa Z h a C) (wi : (Cond.instantiable C kk).before a0 Z = true) (G : Ia Z h b ty xs) : a ≠ b := by
  obtain ⟨c, A, -⟩ := G
  exact ne_arr E wi A
end Facts
section Rules2
variable {l : Launch} {Z : State} {B : wkB} {R : Room} {hs : Heap} {w0 : List Addr} {Q : Option Value → Heap → List Addr → Prop} {ws : List Addr} {h : Heap} {k n pc : Nat} {Ls : Array Slot} {st : List Value} {a0 : Array Value}
variable {p : Program} {e : Env} {s : State} {m : MethodId} {args : Array Value} {below : List Frame} {meth : Method} {c : Code} {vm0 : Vm} {k0 : Nat} {T T' : State} {locs : List Loc} {h' : Heap} {k' n' : Nat} {a : Addr} {sl : Nat} {v : Value}
theorem keepExt {hh h1 : Heap} (E : Ext hh h1) : Keep hh h1 [] := (Keep.refl _ _).ext E
theorem wkAt.same (A : wkAt p l e R s m args below meth c Z B hs w0 ws h k n vm0 k0 T locs) (X' : Stand p l e R (s.setVm vm0) m args below meth c T' locs k n) (e' : T'.heap = h) : wkAt p l e R s m args below meth c Z B hs w0 ws h k n vm0 k0 T' locs :=
  ⟨A.1, X', e', A.2.2.2⟩
theorem wkAt.ext (A : wkAt p l e R s m args below meth c Z B hs w0 ws h k n vm0 k0 T locs) (X' : Stand p l e R (s.setVm vm0) m args below meth c T' locs k' n') (e' : T'.heap = h') (E : Ext h h') : wkAt p l e R s m args below meth c Z B hs w0 ws h' k' n' vm0 k0 T' locs := by
  obtain ⟨a1, -, -, ⟨a4, a5⟩, a6, a7, a8, a9, a10, a11, a12⟩ := A
  exact ⟨a1, X', e', ⟨a4, Nat.le_trans a5 E.1⟩, a6, a7, a8.trans (CHr.ext E a8.1), a9, a10.ext E, a11.ext E, fun x hx => ⟨(a12 x hx).1, Nat.lt_of_lt_of_le (a12 x hx).2.1 E.1, Safe.ext E a8.1 (a12 x hx).2.2.1, (a12 x hx).2.2.2⟩⟩
theorem wkAt.push (A : wkAt p l e R s m args below meth c Z B hs w0 ws h k n vm0 k0 T locs) (X' : Stand p l e R (s.setVm vm0) m args below meth c T' locs k' n') (e' : T'.heap = h') (E : Ext h h') (ha : h.size ≤ a) (hb : a < h'.size) : wkAt p l e R s m args below meth c Z B hs w0 (a :: ws) h' k' n' vm0 k0 T' locs := by
  have q := A.ext X' e' E
  obtain ⟨a1, -, -, ⟨a4, a5⟩, a6, a7, a8, a9, a10, a11, a12⟩ := A
  obtain ⟨b1, b2, b3, b4, b5, b6, b7, b8, b9, b10, b11⟩ := q
  refine ⟨b1, b2, b3, b4, b5, b6, b7, b8, b9, b10, fun x hx => ?_⟩
  rcases List.mem_cons.mp hx with rfl | hx
  · exact ⟨Nat.le_trans a10.2.1 ha, hb, Safe.ext E a8.1 (Safe.new ha), Or.inr (Nat.le_trans a11.1 ha)⟩
  · exact b11 x hx
theorem wkAt.wr (A : wkAt p l e R s m args below meth c Z B hs w0 ws h k n vm0 k0 T locs) (X' : Stand p l e R (s.setVm vm0) m args below meth c T' (locs ++ [⟨a, sl⟩]) k n) (e' : T'.heap = h') (W : Wr h h' a sl v) (ha : a ∈ ws) : wkAt p l e R s m args below meth c Z B hs w0 ws h' k n vm0 k0 T' (locs ++ [⟨a, sl⟩]) := by
  obtain ⟨a1, -, -, ⟨a4, a5⟩, a6, a7, a8, a9, a10, a11, a12⟩ := A
  obtain ⟨s1, s2, s3, s4⟩ := a12 a ha
  have hsz := W.size
  exact ⟨a1, X', e', ⟨a4, by rw [hsz]; exact a5⟩, a6, a7, a8.trans (CHr.wr W s3 a8.1), Fr.app a9 (fun y hy => by simp at hy; rw [hy]; exact s1), a10.wr W s1, a11.wr W s4, fun x hx => ⟨(a12 x hx).1, by rw [hsz]; exact (a12 x hx).2.1, Safe.wr W s3 a8.1 (a12 x hx).2.2.1, (a12 x hx).2.2.2⟩⟩
theorem wkP.more {k1 n1 : Nat} (hk : k ≤ k1) (hn : n ≤ n1) (K : wkP l Z B R hs w0 Q ws h k1 n1 pc Ls st) : wkP l Z B R hs w0 Q ws h k n pc Ls st := by
  intro p e s m args below meth c vm0 k0 T locs A
  exact K p e s m args below meth c vm0 k0 T locs ⟨A.1, A.2.1.more hk hn, A.2.2⟩
theorem wkP.sub {ws1 : List Addr} (q : ∀ x ∈ ws1, x ∈ ws) (K : wkP l Z B R hs w0 Q ws1 h k n pc Ls st) : wkP l Z B R hs w0 Q ws h k n pc Ls st := by
  intro p e s m args below meth c vm0 k0 T locs A
  obtain ⟨b1, b2, b3, b4, b5, b6, b7, b8, b9, b10, b11⟩ := A
  exact K p e s m args below meth c vm0 k0 T locs ⟨b1, b2, b3, b4, b5, b6, b7, b8, b9, b10, fun x hx => b11 x (q x hx)⟩
/-- what is known wherever a walk stands -/
theorem wkP.know (K : (∀ x ∈ ws, Z.heap.size ≤ x ∧ x < h.size) → Z.heap.size ≤ h.size → Keep hs h w0 → wkP l Z B R hs w0 Q ws h k n pc Ls st) : wkP l Z B R hs w0 Q ws h k n pc Ls st := by
  intro p e s m args below meth c vm0 k0 T locs A
  obtain ⟨b1, b2, b3, b4, b5, b6, b7, b8, b9, b10, b11⟩ := A
  exact K (fun x hx => ⟨(b11 x hx).1, (b11 x hx).2.1⟩) b9.2.1 b10 p e s m args below meth c vm0 k0 T locs ⟨b1, b2, b3, b4, b5, b6, b7, b8, b9, b10, b11⟩
theorem wkP.getF (pc' : Nat) {index : Nat} {R0 O nm d : String} (w : (Cond.fieldLink B.1.cls index R0 nm d).before a0 Z = true) (F : Fld Z h a O nm d v) (via : Via Z R0 O nm d) (hd : decode B.2.1 pc = .ok (.getfield index, 3)) (hp : pc + 3 = pc') (K : wkP l Z B R hs w0 Q ws h k n pc' Ls (v :: st)) : wkP l Z B R hs w0 Q ws h k n pc Ls (.ref a :: st) := by
  subst hp
  intro p e s m args below meth c vm0 k0 T locs A
  obtain ⟨T', X', e', stp⟩ := RoadKit.getF A.2.1 A.1.1 A.2.2.2.2.1 A.2.2.2.2.2.1 (host := "") (Or.inl w) via A.2.2.1 F (g := mkF m pc Ls (.ref a :: st)) rfl rfl (hb A.1.2.1 hd)
  obtain ⟨U, o, q, r⟩ := K p e s m args below meth c vm0 k0 T' locs (A.same X' e')
  exact ⟨U, o, stp _ q, r⟩
theorem wkP.getS (pc' : Nat) {index : Nat} {R0 O nm d : String} (w : (Cond.fieldLink B.1.cls index R0 nm d).before a0 Z = true) (F : Sta Z Z.heap O nm d v) (via : Via Z R0 O nm d) (hd : decode B.2.1 pc = .ok (.getstatic index, 3)) (hp : pc + 3 = pc') (K : wkP l Z B R hs w0 Q ws h k n pc' Ls (v :: st)) : wkP l Z B R hs w0 Q ws h k n pc Ls st := by
  subst hp
  intro p e s m args below meth c vm0 k0 T locs A
  obtain ⟨T', X', e', stp⟩ := RoadKit.getS A.2.1 A.1.1 A.2.2.2.2.1 A.2.2.2.2.2.1 (host := "") w via A.2.2.1 (F.ext A.2.2.2.2.2.2.2.2.1.2) (g := mkF m pc Ls st) rfl (hb A.1.2.1 hd)
  obtain ⟨U, o, q, r⟩ := K p e s m args below meth c vm0 k0 T' locs (A.same X' e')
  exact ⟨U, o, stp _ q, r⟩
theorem wkP.castY (pc' : Nat) {index : Nat} {C : String} (w : (Cond.classLink B.1.cls index C).before a0 Z = true) (F : Ins Z h a C true) (hd : decode B.2.1 pc = .ok (.checkcast index, 3)) (hp : pc + 3 = pc') (K : wkP l Z B R hs w0 Q ws h k n pc' Ls (.ref a :: st)) : wkP l Z B R hs w0 Q ws h k n pc Ls (.ref a :: st) := by
  subst hp
  intro p e s m args below meth c vm0 k0 T locs A
  obtain ⟨T', X', e', stp⟩ := RoadKit.castY A.2.1 A.1.1 A.2.2.2.2.1 A.2.2.2.2.2.1 w A.2.2.1 F (g := mkF m pc Ls (.ref a :: st)) rfl rfl (hb A.1.2.1 hd)
  obtain ⟨U, o, q, r⟩ := K p e s m args below meth c vm0 k0 T' locs (A.same X' e')
  exact ⟨U, o, stp _ q, r⟩
theorem wkP.instY (pc' : Nat) {index : Nat} {C : String} (w : (Cond.classLink B.1.cls index C).before a0 Z = true) (F : Ins Z h a C true) (hd : decode B.2.1 pc = .ok (.instanceof index, 3)) (hp : pc + 3 = pc') (K : wkP l Z B R hs w0 Q ws h k n pc' Ls (.int 1 :: st)) : wkP l Z B R hs w0 Q ws h k n pc Ls (.ref a :: st) := by
  subst hp
  intro p e s m args below meth c vm0 k0 T locs A
  obtain ⟨T', X', e', stp⟩ := RoadKit.instY A.2.1 A.1.1 A.2.2.2.2.1 A.2.2.2.2.2.1 w A.2.2.1 F (g := mkF m pc Ls (.ref a :: st)) rfl rfl (hb A.1.2.1 hd)
  obtain ⟨U, o, q, r⟩ := K p e s m args below meth c vm0 k0 T' locs (A.same X' e')
  exact ⟨U, o, stp _ q, r⟩
theorem wkP.ldcI (pc' : Nat) {index : Nat} {v : Int32} (w : (Cond.constant B.1.cls index v).before a0 Z = true) (hd : decode B.2.1 pc = .ok (.ldc index, 2)) (hp : pc + 2 = pc') (K : wkP l Z B R hs w0 Q ws h k n pc' Ls (.int v :: st)) : wkP l Z B R hs w0 Q ws h k n pc Ls st := by
  subst hp
  intro p e s m args below meth c vm0 k0 T locs A
  obtain ⟨U, o, q, r⟩ := K p e s m args below meth c vm0 k0 T locs A
  exact ⟨U, o, A.2.1.ldcInt A.1.1 (own := B.1.cls) A.2.2.2.2.2.1 (mvT (s := s.setVm vm0) A.2.2.2.2.1 w) (g := mkF m pc Ls st) rfl (hb A.1.2.1 hd) _ q, r⟩
theorem wkP.ldcL (pc' : Nat) {index : Nat} {v : Int64} (w : (Cond.constantLong B.1.cls index v).before a0 Z = true) (hd : decode B.2.1 pc = .ok (.ldc2_w index, 3)) (hp : pc + 3 = pc') (K : wkP l Z B R hs w0 Q ws h k n pc' Ls (.long v :: st)) : wkP l Z B R hs w0 Q ws h k n pc Ls st := by
  subst hp
  intro p e s m args below meth c vm0 k0 T locs A
  obtain ⟨U, o, q, r⟩ := K p e s m args below meth c vm0 k0 T locs A
  exact ⟨U, o, A.2.1.ldc2Long A.1.1 (own := B.1.cls) A.2.2.2.2.2.1 (mvT (s := s.setVm vm0) A.2.2.2.2.1 w) (g := mkF m pc Ls st) rfl (hb A.1.2.1 hd) _ q, r⟩
theorem wkP.instNull (pc' : Nat) {index : Nat} (hd : decode B.2.1 pc = .ok (.instanceof index, 3)) (hp : pc + 3 = pc') (K : wkP l Z B R hs w0 Q ws h k n pc' Ls (.int 0 :: st)) : wkP l Z B R hs w0 Q ws h k n pc Ls (.null :: st) := by
  subst hp; exact .pure (fun p e s m args below meth c vm0 T locs hx hby X t q => X.instanceofNull hx (g := mkF m pc Ls (.null :: st)) rfl rfl (hb hby hd) t q) K
theorem wkP.instNo (pc' : Nat) {index : Nat} {C D : String} (w : (Cond.classLink B.1.cls index C).before a0 Z = true) (E : Exa Z h a D) (F : ∃ c t, Z.vm.findClass D = some c ∧ Z.vm.findClass C = some t ∧ Z.vm.assignable c t = false) (hd : decode B.2.1 pc = .ok (.instanceof index, 3)) (hp : pc + 3 = pc') (K : wkP l Z B R hs w0 Q ws h k n pc' Ls (.int 0 :: st)) : wkP l Z B R hs w0 Q ws h k n pc Ls (.ref a :: st) := by
  subst hp
  intro p e s m args below meth c vm0 k0 T locs A
  obtain ⟨T', X', e', stp⟩ := RoadKit.instNo A.2.1 A.1.1 A.2.2.2.2.1 A.2.2.2.2.2.1 w A.2.2.1 E F (g := mkF m pc Ls (.ref a :: st)) rfl rfl (hb A.1.2.1 hd)
  obtain ⟨U, o, q, r⟩ := K p e s m args below meth c vm0 k0 T' locs (A.same X' e')
  exact ⟨U, o, stp _ q, r⟩
/-- String's one superclass is Object: it is no class that is neither -/
theorem notOf {K : String} {kk : Nat} (w1 : (Cond.superclass "java/lang/String" "java/lang/Object").before a0 Z = true) (w2 : (Cond.noSuperclass "java/lang/Object").before a0 Z = true) (w3 : (Cond.instantiable K kk).before a0 Z = true) (n1 : "java/lang/String" ≠ K) (n2 : "java/lang/Object" ≠ K) : ∃ c t, Z.vm.findClass "java/lang/String" = some c ∧ Z.vm.findClass K = some t ∧ Z.vm.assignable c t = false := by
  obtain ⟨t, kt, g0, g2, g3, g4, -⟩ := Cond.instantiable_spec w3
  obtain ⟨c, h0⟩ := found_sup w1
  obtain ⟨p, k, kp, h1, h2, h3, h4, h5, -, h7⟩ := Cond.superclass_spec h0 w1
  obtain ⟨q, kq, q1, q2, q3, -, -⟩ := Cond.noSuperclass_spec w2
  have e1 := h1.symm.trans q1
  cases e1
  have ne1 := ids_ne h0 g0 n1
  have ne2 := ids_ne h1 g0 n2
  have hi : kt.isInterface = false := by
    cases hq : kt.isInterface
    · rfl
    · rw [hq] at g4; simp at g4
  have ns : ∀ fuel, Z.vm.isSubclassAux fuel c t = false := fun fuel => by
    cases fuel with
    | zero => rfl
    | succ f =>
      cases f with
      | zero => simp [Vm.isSubclassAux, ne1, h2, h4]
      | succ f => simp [Vm.isSubclassAux, ne1, ne2, h2, h4, q2, q3]
  refine ⟨c, t, h0, g0, ?_⟩
  show Z.vm.assignableAux (255 + 1) c t = false
  simp [Vm.assignableAux, ne1, h2, g2, h5, g3, hi, Vm.isSubclass, ns]
theorem wkP.newO (pc' : Nat) {index nn : Nat} {C : String} (w : (Cond.classLink B.1.cls index C).before a0 Z = true) (wi : (Cond.instantiable C nn).before a0 Z = true) (wz : (Cond.initialized C).before a0 Z = true) (hd : decode B.2.1 pc = .ok (.new index, 3)) (hc : k + 1 ≤ R.cells) (hl : n + nn ≤ R.slots) (hp : pc + 3 = pc')
    (K : ∀ (h' : Heap) (a : Addr), h.size ≤ a → h'.size > a → Keep h h' [] → Exa Z h' a C → (∀ {O nm d : String} {ty : FieldType}, Laid Z a0 C O nm d → parseFieldDescriptor d = some ty → Fld Z h' a O nm d (defaultValue ty)) → Unt h' a → wkP l Z B R hs w0 Q (a :: ws) h' (k + 1) (n + nn) pc' Ls (.ref a :: st)) : wkP l Z B R hs w0 Q ws h k n pc Ls st := by
  subst hp
  intro p e s m args below meth c vm0 k0 T locs A
  obtain ⟨T', h', X', e', E', A', D', N', stp⟩ := RoadKit.newO A.2.1 A.1.1 A.2.2.2.2.1 A.2.2.2.2.2.1 w wi wz A.2.2.1 (g := mkF m pc Ls st) rfl (hb A.1.2.1 hd) hc hl
  obtain ⟨U, o, q, r⟩ := K h' h.size (Nat.le_refl _) A'.lt (keepExt E') A' (fun L q => D' L q) N' p e s m args below meth c vm0 k0 T' locs (A.push X' e' E' (Nat.le_refl _) A'.lt)
  exact ⟨U, o, stp _ q, r⟩
theorem nat_of_toInt {z : Int32} {N : Nat} (hz : z.toInt = (N : Int)) : ¬ z < 0 ∧ z.toNatClampNeg = N := by
  constructor
  · rw [Int32.lt_iff_toInt_lt, hz]; simp
  · simp [Int32.toNatClampNeg, hz]
theorem wkP.newP (pc' : Nat) {aty : ArrayType} (ty : FieldType) (N cap : Nat) {z : Int32} (w : (Cond.arrayClass ty).before a0 Z = true) (hty : newarray.typeOf aty = ty) (hdv : defaultValue ty = .int 0) (hf : fits ty (.int 0) = true) (hd : decode B.2.1 pc = .ok (.newarray aty, 2)) (hz : z.toInt = (N : Int)) (hcap : N ≤ cap) (hb8 : cap * 8 ≤ 536870912) (hc : k + 1 ≤ R.cells) (hl : n + cap ≤ R.slots) (hp : pc + 2 = pc')
    (K : ∀ (h' : Heap) (a : Addr), h.size ≤ a → h'.size > a → Keep h h' [] → Ia Z h' a ty (List.replicate N 0) → wkP l Z B R hs w0 Q (a :: ws) h' (k + 1) (n + cap) pc' Ls (.ref a :: st)) : wkP l Z B R hs w0 Q ws h k n pc Ls (.int z :: st) := by
  subst hp hty
  obtain ⟨z1, z2⟩ := nat_of_toInt hz
  intro p e s m args below meth c vm0 k0 T locs A
  obtain ⟨T', h', cA, X', e', E', A', stp⟩ := RoadKit.newP A.2.1 A.1.1 A.2.2.2.2.1 w A.2.2.1 (g := mkF m pc Ls (.int z :: st)) rfl (hb A.1.2.1 hd) rfl z1 (cap := cap) (by omega) hb8 hc hl
  have F : Ia Z h' h.size (newarray.typeOf aty) (List.replicate N 0) := ⟨_, A', by simp [newA, z2, hdv], fun x hx => by rw [List.eq_of_mem_replicate hx]; exact hf, by simp; omega⟩
  obtain ⟨U, o, q, r⟩ := K h' h.size (Nat.le_refl _) A'.lt (keepExt E') F p e s m args below meth c vm0 k0 T' locs (A.push X' e' E' (Nat.le_refl _) A'.lt)
  exact ⟨U, o, stp _ q, r⟩
theorem wkP.putF (pc' : Nat) {index kk : Nat} {O nm d C : String} {ty : FieldType} {old : Value} (w : (Cond.fieldLink B.1.cls index O nm d).before a0 Z = true) (F : Fld Z h a O nm d old) (E : Exa Z h a C) (L : (Cond.lays C O nm d).before a0 Z = true ∨ ((Cond.laysFinal C O nm d).before a0 Z = true ∧ B.1.cls = O ∧ B.1.name = "<init>")) (wi : (Cond.instantiable C kk).before a0 Z = true)
    (hty : parseFieldDescriptor d = some ty) (hn : narrow ty v = v) (hf : fits ty v = true) (hd : decode B.2.1 pc = .ok (.putfield index, 3)) (ha : a ∈ ws) (hp : pc + 3 = pc')
    (K : ∀ h' : Heap, Keep h h' [a] → Wr h h' a (RoadKit.slotOf Z O nm d) v → wkP l Z B R hs w0 Q ws h' k n pc' Ls st) : wkP l Z B R hs w0 Q ws h k n pc Ls (v :: .ref a :: st) := by
  subst hp
  intro p e s m args below meth c vm0 k0 T locs A
  obtain ⟨T', h', X', e', W', stp⟩ := RoadKit.putF A.2.1 A.1.1 A.2.2.2.2.1 A.2.2.2.2.2.1 (host := "") (Or.inl w) Via.refl A.2.2.1 F E (L.imp id fun q => ⟨q.1, q.2.1, A.1.2.2.2.2.2.1.trans q.2.2⟩) wi hty hn hf (g := mkF m pc Ls (v :: .ref a :: st)) rfl rfl (hb A.1.2.1 hd)
  obtain ⟨U, o, q, r⟩ := K h' (Keep.of_wr W') W' p e s m args below meth c vm0 k0 T' _ (A.wr X' e' W' ha)
  exact ⟨U, o, stp _ q, r⟩
theorem Ia.set {xs : List Int32} {ty : FieldType} {i : Nat} {x : Int32} (F : Ia Z h a ty xs) (W : Wr h h' a i (.int x)) (hx : fits ty (.int x) = true) : Ia Z h' a ty (xs.set i x) := by
  obtain ⟨c, A, e1, f, r⟩ := F
  refine ⟨_, A.same W, by simp [Cell.setSlot, e1], fun y hy => ?_, by simpa using r⟩
  rcases List.mem_or_eq_of_mem_set hy with q | q
  · exact f y q
  · rw [q]; exact hx
theorem in_of {xs : List Int32} {c : Cell} {j : Int32} {i : Nat} (e1 : c.slots = (xs.map Value.int).toArray) (hj : j.toInt = (i : Int)) (hi : i < xs.length) : ¬ (j < 0 ∨ c.slots.size ≤ j.toNatClampNeg) := by
  obtain ⟨z1, z2⟩ := nat_of_toInt hj
  rw [e1, z2]; simp [z1]; omega
theorem wkP.stC (pc' i : Nat) {xs : List Int32} {j x : Int32} (x' : Int32) (F : Ia Z h a .char xs) (hd : decode B.2.1 pc = .ok (.castore, 1)) (hj : j.toInt = (i : Int)) (hi : i < xs.length) (hx' : nar .char x = x') (ha : a ∈ ws) (hp : pc + 1 = pc')
    (K : ∀ h' : Heap, Keep h h' [a] → Ia Z h' a .char (xs.set i x') → wkP l Z B R hs w0 Q ws h' k n pc' Ls st) : wkP l Z B R hs w0 Q ws h k n pc Ls (.int x :: .int j :: .ref a :: st) := by
  subst hp hx'
  intro p e s m args below meth c vm0 k0 T locs A
  have F0 := F
  obtain ⟨cl, Ar, e1, f, r⟩ := F
  obtain ⟨T', h', X', e', W', stp⟩ := RoadKit.stC A.2.1 A.1.1 A.2.2.2.2.1 A.2.2.1 Ar (j := j) (in_of e1 hj hi) (g := mkF m pc Ls (.int x :: .int j :: .ref a :: st)) rfl rfl (hb A.1.2.1 hd)
  rw [(nat_of_toInt hj).2] at W' X'
  obtain ⟨U, o, q, r⟩ := K h' (Keep.of_wr W') (F0.set W' (fits_nar_char x)) p e s m args below meth c vm0 k0 T' _ (A.wr X' e' W' ha)
  exact ⟨U, o, stp _ q, r⟩
theorem wkP.stB (pc' i : Nat) {xs : List Int32} {j x : Int32} (x' : Int32) (F : Ia Z h a .byte xs) (hd : decode B.2.1 pc = .ok (.bastore, 1)) (hj : j.toInt = (i : Int)) (hi : i < xs.length) (hx' : nar .byte x = x') (ha : a ∈ ws) (hp : pc + 1 = pc')
    (K : ∀ h' : Heap, Keep h h' [a] → Ia Z h' a .byte (xs.set i x') → wkP l Z B R hs w0 Q ws h' k n pc' Ls st) : wkP l Z B R hs w0 Q ws h k n pc Ls (.int x :: .int j :: .ref a :: st) := by
  subst hp hx'
  intro p e s m args below meth c vm0 k0 T locs A
  have F0 := F
  obtain ⟨cl, Ar, e1, f, r⟩ := F
  obtain ⟨T', h', X', e', W', stp⟩ := RoadKit.stB A.2.1 A.1.1 A.2.2.2.2.1 A.2.2.1 Ar (j := j) (in_of e1 hj hi) (g := mkF m pc Ls (.int x :: .int j :: .ref a :: st)) rfl rfl (hb A.1.2.1 hd)
  rw [(nat_of_toInt hj).2] at W' X'
  obtain ⟨U, o, q, r⟩ := K h' (Keep.of_wr W') (F0.set W' (fits_nar_byte x)) p e s m args below meth c vm0 k0 T' _ (A.wr X' e' W' ha)
  exact ⟨U, o, stp _ q, r⟩
theorem Ia.at {xs : List Int32} {c : Cell} {i : Nat} {x j : Int32} (e1 : c.slots = (xs.map Value.int).toArray) (hj : j.toInt = (i : Int)) (hx : xs[i]? = some x) : c.slots[j.toNatClampNeg]? = some (.int x) := by
  rw [(nat_of_toInt hj).2, e1]; simp [hx]
theorem wkP.caload (pc' i : Nat) {xs : List Int32} {j : Int32} (x : Int32) (F : Ia Z h a .char xs) (hd : decode B.2.1 pc = .ok (.caload, 1)) (hj : j.toInt = (i : Int)) (hx : xs[i]? = some x) (hp : pc + 1 = pc') (K : wkP l Z B R hs w0 Q ws h k n pc' Ls (.int x :: st)) : wkP l Z B R hs w0 Q ws h k n pc Ls (.int j :: .ref a :: st) := by
  subst hp
  intro p e s m args below meth c vm0 k0 T locs A
  obtain ⟨cl, Ar, e1, f, r⟩ := F
  have hi : i < xs.length := (List.getElem?_eq_some_iff.mp hx).1
  obtain ⟨U, o, q, r⟩ := K p e s m args below meth c vm0 k0 T locs A
  exact ⟨U, o, A.2.1.caload A.1.1 (by rw [A.2.2.1]; exact Ar.1) (State.isArrayOf_alike (T := s.setVm vm0) A.2.2.2.2.1.alike Ar.2.1) Ar.2.2 (in_of e1 hj hi) (Ia.at e1 hj hx) (g := mkF m pc Ls (.int j :: .ref a :: st)) rfl rfl (hb A.1.2.1 hd) _ q, r⟩
theorem wkP.baload (pc' i : Nat) {xs : List Int32} {j : Int32} (x : Int32) (F : Ia Z h a .byte xs) (hd : decode B.2.1 pc = .ok (.baload, 1)) (hj : j.toInt = (i : Int)) (hx : xs[i]? = some x) (hp : pc + 1 = pc') (K : wkP l Z B R hs w0 Q ws h k n pc' Ls (.int x :: st)) : wkP l Z B R hs w0 Q ws h k n pc Ls (.int j :: .ref a :: st) := by
  subst hp
  intro p e s m args below meth c vm0 k0 T locs A
  obtain ⟨cl, Ar, e1, f, r⟩ := F
  have hi : i < xs.length := (List.getElem?_eq_some_iff.mp hx).1
  obtain ⟨U, o, q, r⟩ := K p e s m args below meth c vm0 k0 T locs A
  exact ⟨U, o, A.2.1.baloadBytes A.1.1 (by rw [A.2.2.1]; exact Ar.1) (State.isArrayOf_alike (T := s.setVm vm0) A.2.2.2.2.1.alike Ar.2.1) Ar.2.2 (in_of e1 hj hi) (Ia.at e1 hj hx) (g := mkF m pc Ls (.int j :: .ref a :: st)) rfl rfl (hb A.1.2.1 hd) _ q, r⟩
theorem wkP.alen (pc' : Nat) {xs : List Int32} {ty : FieldType} (z : Int32) (F : Ia Z h a ty xs) (hd : decode B.2.1 pc = .ok (.arraylength, 1)) (hz : Int32.ofNat xs.length = z) (hp : pc + 1 = pc') (K : wkP l Z B R hs w0 Q ws h k n pc' Ls (.int z :: st)) : wkP l Z B R hs w0 Q ws h k n pc Ls (.ref a :: st) := by
  subst hp hz
  intro p e s m args below meth c vm0 k0 T locs A
  obtain ⟨cl, Ar, e1, f, r⟩ := F
  obtain ⟨U, o, q, r⟩ := K p e s m args below meth c vm0 k0 T locs A
  refine ⟨U, o, A.2.1.arraylength A.1.1 (by rw [A.2.2.1]; exact Ar.1) (State.isArrayOf_alike (T := s.setVm vm0) A.2.2.2.2.1.alike Ar.2.1) (g := mkF m pc Ls (.ref a :: st)) rfl rfl (hb A.1.2.1 hd) _ ?_, r⟩
  have sz : cl.slots.size = xs.length := by rw [e1]; simp
  rw [sz]; exact q
theorem wkP.initO (pc' : Nat) {index : Nat} (w1 : (Cond.methodLink B.1.cls index Lib.objectInit).before a0 Z = true) (w2 : (Cond.instanceMethod Lib.objectInit).before a0 Z = true) (w3 : (Cond.code Lib.objectInit ⟨#[0xb1]⟩ 1 none).before a0 Z = true) (hd : decode B.2.1 pc = .ok (.invokespecial index, 3)) (hsz : Ls.size = B.2.2.1)
    (hf : 1 ≤ R.frames) (W : Nat) (hW : 2 * 0 + (st.map fun v => v.category).sum ≤ W) (hl : W + 12 ≤ R.locals) (hp : pc + 3 = pc') (K : wkP l Z B R hs w0 Q ws h k n pc' Ls st) : wkP l Z B R hs w0 Q ws h k n pc Ls (.ref a :: st) := by
  subst hp
  intro p e s m args below meth c vm0 k0 T locs A
  obtain ⟨T', X', e', stp⟩ := RoadKit.initO A.2.1 A.1.1 A.2.2.2.2.1 A.2.2.2.2.2.1 w1 w2 w3 A.2.2.1 (g := mkF m pc Ls (.ref a :: st)) rfl (hsz.trans A.1.2.2.1.symm) rfl (hb A.1.2.1 hd) hf hW hl
  obtain ⟨U, o, q, r⟩ := K p e s m args below meth c vm0 k0 T' locs (A.same X' e')
  exact ⟨U, o, stp _ q, r⟩
theorem wkP.ldc (pc' : Nat) {index : Nat} {text : String} (xs : List Int32) (N : Nat) (w : (Cond.stringLink B.1.cls index text).before a0 Z = true) (wS : ∀ a ∈ Bundle.stringAtoms, a.before a0 Z = true) (hE : EW Z a0 EL) (hmem : (B.1.cls, index) ∈ EL)
    (ht : (∀ c ∈ text.toList, c.toNat < 256) ∧ text.toList.map (fun c => Value.int (Jvm.Lit.byteI c.toNat.toUInt16)) = xs.map Value.int) (hl : text.toList.length = xs.length) (hxl : xs.length < 100000) (hd : decode B.2.1 pc = .ok (.ldc index, 2)) (hn : 4 * text.toList.length ≤ N) (hN : N ≤ 536870912) (hc : k + 2 ≤ R.cells) (hsl : n + (N + 4) ≤ R.slots) (hp : pc + 2 = pc')
    (K : ∀ (h' : Heap) (a b : Addr), Keep h h' [] → Exa Z h' a "java/lang/String" → Fld Z h' a "java/lang/String" "coder" "B" (.int 0) → Fld Z h' a "java/lang/String" "value" "[B" (.ref b) → Ia Z h' b .byte xs → (∀ x ∈ ws, x ≠ a ∧ x ≠ b) → wkP l Z B R hs w0 Q ws h' (k + 2) (n + (N + 4)) pc' Ls (.ref a :: st)) : wkP l Z B R hs w0 Q ws h k n pc Ls st := by
  subst hp
  intro p e s m args below meth c vm0 k0 T locs A
  have hz : (Int32.ofNat xs.length).toInt = (xs.length : Int) := toInt_of rfl (by omega)
  obtain ⟨z1, z2⟩ := nat_of_toInt hz
  obtain ⟨a1, a2, a3, ⟨a4, a5⟩, a6, a7, a8, a9, a10, a11, a12⟩ := A
  obtain ⟨a, T', h', k1, b, kb, X', e', E', S', k1', W', O', q1, q2, q3, q4, q5, q6, C', -, ne, stp⟩ := ldcCH a2 a1.1 a6 a7 w wS a3 a4 a5 hE hmem a8.1 ht z1 (by rw [z2]; simp) (g := mkF m pc Ls st) rfl (hb a1.2.1 hd) hn hN hc hsl
  have sf : ∀ x ∈ ws, Z.heap.size ≤ x ∧ x < h'.size ∧ Safe Z EL T'.vm h' x ∧ (x ∈ w0 ∨ hs.size ≤ x) := fun x hx => ⟨(a12 x hx).1, Nat.lt_of_lt_of_le (a12 x hx).2.1 E'.1, C'.safe (a12 x hx).2.1 (a12 x hx).2.2.1, (a12 x hx).2.2.2⟩
  obtain ⟨U, o, q, r⟩ := K h' a b (keepExt E') q1 q2 q3 (Ia.of_arv q4 rfl (by rw [z2]; simp)) (fun x hx => ne x (sf x hx).2.2.1) p e s m args below meth c T'.vm k1 T' locs ⟨a1, X', e', ⟨S', k1'⟩, W', O', a8.trans C', a9, a10.ext E', a11.ext E', sf⟩
  exact ⟨U, o, stp _ q, r⟩
theorem wkBack {B' : wkB} {rm : Room} {as : Array Value} {wc : List Addr} {Q' : Option Value → Heap → List Addr → Prop} {len W : Nat} (M : wkM l Z B' rm as h wc Q') (hO : Old Z Z.heap.size h) (hw : ∀ x ∈ wc, Z.heap.size ≤ x ∧ x < h.size) (hZ : Z.Warmed39 vm0) (wcd : (Cond.code B'.1 B'.2.1 B'.2.2.1 B'.2.2.2).before a0 Z = true) (wz : (Cond.initialized B'.1.cls).before a0 Z = true)
    (hf : rm.frames + 1 ≤ R.frames) (hl : W + (B'.2.2.1 + 11) + rm.locals ≤ R.locals) (hE : EW Z a0 EL) (H : CHv Z EL vm0 h) (hS : ∀ x ∈ wc, Safe Z EL vm0 h x) (hKN : wkK vm0 below) :
    BackS l R p e below (s.setVm vm0) args B'.1 len W (fun A a => a = as ∧ A.U.heap = h ∧ A.cells + rm.cells ≤ R.cells ∧ A.slots + rm.slots ≤ R.slots)
      (fun A _ v D => ∃ L os, (Q' v D.U.heap os ∧ Keep h D.U.heap wc ∧ Fr Z.heap.size L ∧ Old Z Z.heap.size D.U.heap ∧ wkSf Z D.U.vm D.U.heap h wc os) ∧ D.locs = A.locs ++ L ∧ D.cells = A.cells + rm.cells ∧ D.slots = A.slots + rm.slots ∧ CHr Z EL vm0 h D.U.vm D.U.heap) :=
  BackS.of_freeWG (bytes := B'.2.1) (maxL := B'.2.2.1) (ret := B'.2.2.2) (E := fun _ first o t L k n => k = rm.cells ∧ n = rm.slots ∧ (∃ v os, o = .returned v ∧ (Q' v t.heap os ∧ Keep h t.heap wc ∧ Fr Z.heap.size L ∧ Old Z Z.heap.size t.heap ∧ wkSf Z t.vm t.heap h wc os)) ∧ CHr Z EL first.vm first.heap t.vm t.heap) (M hO hw) hf hl
    (fun m meth c A a Y hp => have hU : Z.Warmed39 A.U.vm := wtrans (s := s.setVm vm0) hZ Y.warmed
      ⟨by show (Cond.and _ .tt).before a A.U = true; rw [Cond.before_and, mv hU wcd]; rfl, mv hU wcd, mv hU wz, hp.2.2.1, hp.2.2.2⟩)
    (fun m meth c A a g mk Y hp => ⟨hp.1, wtrans (s := s.setVm vm0) hZ Y.warmed, hp.2.1, (CHv.at Y hZ hE H).1, fun x hx => (CHv.at Y hZ hE H).safe (hw x hx).2 (hS x hx)⟩) (fun m meth c A a g mk Y _ hg => known_frames Y hg hKN.1 hKN.2)
    (fun _ _ _ _ ⟨v, L, h1, ⟨os, h2⟩, h3, h4⟩ => ⟨L, _, _, h4, rfl, rfl, ⟨v, os, h1, h2⟩, h3⟩)
    (fun m meth c A a g mk v t L k n Y hp _ _ ⟨e1, e2, ⟨v', os, e3, e4⟩, e5⟩ => by
      cases e3; subst e1 e2
      refine ⟨L, os, e4, rfl, rfl, rfl, (CHv.at Y hZ hE H).trans ?_⟩
      rw [← hp.2.1]; exact e5)
/-- behind a call: the walk goes on over the tables and the heap that the callee left -/
theorem wkAt.back {U : State} {L : List Loc} {os wc : List Addr} {k2 n2 : Nat} (A : wkAt p l e R s m args below meth c Z B hs w0 ws h k n vm0 k0 T locs) (X' : Stand p l e R ((s.setVm vm0).setVm U.vm) m args below meth c U (locs ++ L) k2 n2) (hS : (s.setVm vm0).Since U.vm U.heap.size) (hg : T.heap.size ≤ U.heap.size)
    (hK : Keep h U.heap wc) (hL : Fr Z.heap.size L) (hO : Old Z Z.heap.size U.heap) (hos : wkSf Z U.vm U.heap h wc os) (hC : CHr Z EL vm0 h U.vm U.heap) (hwc : ∀ x ∈ wc, x ∈ ws) : wkAt p l e R s m args below meth c Z B hs w0 (os ++ ws) U.heap k2 n2 U.vm U.heap.size U (locs ++ L) := by
  obtain ⟨a1, a2, a3, ⟨a4, a5⟩, a6, a7, a8, a9, a10, a11, a12⟩ := A
  obtain ⟨r1, r2, r3, r4⟩ := rebS (own := B.1.cls) a4 (by rw [a3]; exact a5) X' hS hg a6 a7
  refine ⟨a1, r1, rfl, ⟨r2, Nat.le_refl _⟩, r3, r4, a8.trans hC, Fr.app a9 hL, hO, a11.trans hK (fun x hx => (a12 x (hwc x hx)).2.2.2), fun x hx => ?_⟩
  rcases List.mem_append.mp hx with q | q
  · obtain ⟨o1, o2, o3, o4⟩ := hos x q
    refine ⟨o1, o2, o3, ?_⟩
    rcases o4 with o4 | o4
    · exact (a12 x (hwc x o4)).2.2.2
    · exact Or.inr (Nat.le_trans a11.1 o4)
  · exact ⟨(a12 x q).1, Nat.lt_of_lt_of_le (a12 x q).2.1 hK.1, hC.safe (a12 x q).2.1 (a12 x q).2.2.1, (a12 x q).2.2.2⟩
theorem wkP.callS (pc' : Nat) {B' : wkB} {rm : Room} {as : Array Value} {wc : List Addr} {Q' : Option Value → Heap → List Addr → Prop} {index : Nat} (M : wkM l Z B' rm as h wc Q') (argsL rest : List Value) (W : Nat) (hE : EW Z a0 EL)
    (w1 : (Cond.methodLink B.1.cls index B'.1).before a0 Z = true) (w2 : (Cond.static B'.1).before a0 Z = true) (w3 : (Cond.initialized B'.1.cls).before a0 Z = true) (w4 : (Cond.code B'.1 B'.2.1 B'.2.2.1 B'.2.2.2).before a0 Z = true)
    (hy : B'.1.cls ≠ "java/lang/invoke/MethodHandle" ∧ B'.1.cls ≠ "java/lang/invoke/VarHandle") (hd : decode B.2.1 pc = .ok (.invokestatic index, 3)) (hlen : ∀ sig, parseMethodDescriptor B'.1.desc = some sig → argsL.length = sig.parameters.length) (has : argsL.toArray = as) (hst : st = argsL.reverse ++ rest) (hsz : Ls.size = B.2.2.1)
    (hwc : ∀ x ∈ wc, x ∈ ws) (hW : 2 * 0 + (rest.map fun v => v.category).sum ≤ W) (hf : rm.frames + 1 ≤ R.frames) (hl : W + (B'.2.2.1 + 11) + rm.locals ≤ R.locals) (hc : k + rm.cells ≤ R.cells) (hsl : n + rm.slots ≤ R.slots) (hp : pc + 3 = pc')
    (K : ∀ (v : Option Value) (h' : Heap) (os : List Addr), Q' v h' os → Keep h h' wc → wkP l Z B R hs w0 Q (os ++ ws) h' (k + rm.cells) (n + rm.slots) pc' Ls (v.toList ++ rest)) : wkP l Z B R hs w0 Q ws h k n pc Ls st := by
  subst hp hst has
  intro p e s m args below meth c vm0 k0 T locs A
  obtain ⟨a1, a2, a3, ⟨a4, a5⟩, a6, a7, a8, a9, a10, a11, a12⟩ := id A
  obtain ⟨v, vm₁, D, -, X', hS, hg, ⟨L, os, ⟨b1, b2, b3, b4, b5⟩, c1, c2, c3, c4⟩, stp⟩ := callSS a2 a1.1 a7 (mvT (s := s.setVm vm0) a6 w1) (mvT (s := s.setVm vm0) a6 w2) (mvT (s := s.setVm vm0) a6 w3) (mvT (s := s.setVm vm0) a6 w4) hy (wkBack M a10 (fun x hx => ⟨(a12 x (hwc x hx)).1, (a12 x (hwc x hx)).2.1⟩) a6 w4 w3 hf hl hE a8.1 (fun x hx => (a12 x (hwc x hx)).2.2.1) (a1.2.2.2.2.2.2.1.alike a4.1.alike)) (g := mkF m pc Ls (argsL.reverse ++ rest)) rfl (hsz.trans a1.2.2.1.symm) hlen rfl hW (hb a1.2.1 hd) (fun _ _ => ⟨rfl, a3, hc, hsl⟩)
  obtain ⟨U, dl, dc, ds⟩ := D
  dsimp only at X' hS hg b1 b2 b4 b5 c1 c2 c3 c4 stp
  subst c1 c2 c3
  obtain ⟨U2, o, q, r⟩ := K v U.heap os b1 b2 p e s m args below meth c U.vm U.heap.size U _ (A.back X' hS hg b2 b3 b4 b5 c4 hwc)
  exact ⟨U2, o, stp.trans q, r⟩
theorem wkP.callI (pc' : Nat) {B' : wkB} {rm : Room} {as : Array Value} {wc : List Addr} {Q' : Option Value → Heap → List Addr → Prop} {index : Nat} (M : wkM l Z B' rm as h wc Q') (argsL rest : List Value) (W : Nat) (hE : EW Z a0 EL)
    (w1 : (Cond.methodLink B.1.cls index B'.1).before a0 Z = true) (w2 : (Cond.instanceMethod B'.1).before a0 Z = true) (w3 : (Cond.initialized B'.1.cls).before a0 Z = true) (w4 : (Cond.code B'.1 B'.2.1 B'.2.2.1 B'.2.2.2).before a0 Z = true) (hnm : B'.1.name = "<init>") (hrt : B'.2.2.2 = none)
    (hy : B'.1.cls ≠ "java/lang/invoke/MethodHandle" ∧ B'.1.cls ≠ "java/lang/invoke/VarHandle") (hd : decode B.2.1 pc = .ok (.invokespecial index, 3)) (hlen : ∀ sig, parseMethodDescriptor B'.1.desc = some sig → argsL.length = sig.parameters.length) (has : (.ref a :: argsL).toArray = as) (hst : st = argsL.reverse ++ .ref a :: rest) (hsz : Ls.size = B.2.2.1)
    (hwc : ∀ x ∈ wc, x ∈ ws) (hW : 2 * 0 + (rest.map fun v => v.category).sum ≤ W) (hf : rm.frames + 1 ≤ R.frames) (hl : W + (B'.2.2.1 + 11) + rm.locals ≤ R.locals) (hc : k + rm.cells ≤ R.cells) (hsl : n + rm.slots ≤ R.slots) (hp : pc + 3 = pc')
    (K : ∀ (v : Option Value) (h' : Heap) (os : List Addr), Q' v h' os → Keep h h' wc → wkP l Z B R hs w0 Q (os ++ ws) h' (k + rm.cells) (n + rm.slots) pc' Ls (v.toList ++ rest)) : wkP l Z B R hs w0 Q ws h k n pc Ls st := by
  subst hp hst has
  intro p e s m args below meth c vm0 k0 T locs A
  obtain ⟨a1, a2, a3, ⟨a4, a5⟩, a6, a7, a8, a9, a10, a11, a12⟩ := id A
  have w4' : (Cond.code B'.1 B'.2.1 B'.2.2.1 none).before a0 Z = true := hrt ▸ w4
  obtain ⟨v, vm₁, D, -, X', hS, hg, ⟨L, os, ⟨b1, b2, b3, b4, b5⟩, c1, c2, c3, c4⟩, stp⟩ := a2.specialBackS a1.1 hnm a7 (mvT (s := s.setVm vm0) a6 w1) (mvT (s := s.setVm vm0) a6 w2) (mvT (s := s.setVm vm0) a6 w4') hy (wkBack M a10 (fun x hx => ⟨(a12 x (hwc x hx)).1, (a12 x (hwc x hx)).2.1⟩) a6 w4 w3 hf hl hE a8.1 (fun x hx => (a12 x (hwc x hx)).2.2.1) (a1.2.2.2.2.2.2.1.alike a4.1.alike)) (g := mkF m pc Ls (argsL.reverse ++ .ref a :: rest)) rfl (hsz.trans a1.2.2.1.symm) (Steps.refl _) hlen rfl hW (hb a1.2.1 hd) (fun _ _ => ⟨rfl, a3, hc, hsl⟩)
  obtain ⟨U, dl, dc, ds⟩ := D
  dsimp only at X' hS hg b1 b2 b4 b5 c1 c2 c3 c4 stp
  subst c1 c2 c3
  obtain ⟨U2, o, q, r⟩ := K v U.heap os b1 b2 p e s m args below meth c U.vm U.heap.size U _ (A.back X' hS hg b2 b3 b4 b5 c4 hwc)
  exact ⟨U2, o, stp.trans q, r⟩
theorem wkNFs {C : String} {y : MethodName} (w : (Cond.selects C y y).before a0 Z = true) : ∀ s : State, Z.Warmed39 s.vm → NotFace s y := fun s hZ => notFace_of_selects (args := #[]) (mvT hZ w)
theorem wkP.callV (pc' : Nat) {y : MethodName} {C : String} {B' : wkB} {rm : Room} {as : Array Value} {wc : List Addr} {Q' : Option Value → Heap → List Addr → Prop} {index : Nat} (M : wkM l Z B' rm as h wc Q') (argsL rest : List Value) (W : Nat) (hE : EW Z a0 EL) (E : Exa Z h a C) (NF : ∀ s : State, Z.Warmed39 s.vm → NotFace s y)
    (w1 : (Cond.methodLink B.1.cls index y).before a0 Z = true) (w1' : (Cond.declares y).before a0 Z = true) (w2 : (Cond.selects C y B'.1).before a0 Z = true) (w2' : (Cond.instanceMethod B'.1).before a0 Z = true) (w3 : (Cond.initialized B'.1.cls).before a0 Z = true) (w4 : (Cond.code B'.1 B'.2.1 B'.2.2.1 B'.2.2.2).before a0 Z = true)
    (hy : y.cls ≠ "java/lang/invoke/MethodHandle" ∧ y.cls ≠ "java/lang/invoke/VarHandle") (hd : decode B.2.1 pc = .ok (.invokevirtual index, 3)) (hlen : ∀ sig, parseMethodDescriptor y.desc = some sig → argsL.length = sig.parameters.length) (has : (.ref a :: argsL).toArray = as) (hst : st = argsL.reverse ++ .ref a :: rest) (hsz : Ls.size = B.2.2.1)
    (hwc : ∀ x ∈ wc, x ∈ ws) (hW : 2 * 0 + (rest.map fun v => v.category).sum ≤ W) (hf : rm.frames + 1 ≤ R.frames) (hl : W + (B'.2.2.1 + 11) + rm.locals ≤ R.locals) (hc : k + rm.cells ≤ R.cells) (hsl : n + rm.slots ≤ R.slots) (hp : pc + 3 = pc')
    (K : ∀ (v : Option Value) (h' : Heap) (os : List Addr), Q' v h' os → Keep h h' wc → wkP l Z B R hs w0 Q (os ++ ws) h' (k + rm.cells) (n + rm.slots) pc' Ls (v.toList ++ rest)) : wkP l Z B R hs w0 Q ws h k n pc Ls st := by
  subst hp hst has
  intro p e s m args below meth c vm0 k0 T locs A
  obtain ⟨a1, a2, a3, ⟨a4, a5⟩, a6, a7, a8, a9, a10, a11, a12⟩ := id A
  obtain ⟨cq, kq, i1, i2, i3⟩ := isOf (s := s.setVm vm0) a6 a3 E
  obtain ⟨v, vm₁, D, -, X', hS, hg, ⟨L, os, ⟨b1, b2, b3, b4, b5⟩, c1, c2, c3, c4⟩, stp⟩ := a2.virtualBackS a1.1 (y := y) (z := B'.1) a7 (mvT (s := s.setVm vm0) a6 w1) (mvT (s := s.setVm vm0) a6 w1') (NF (s.setVm vm0) a6) (mvT (s := s.setVm vm0) a6 w2) (mvT (s := s.setVm vm0) a6 w2') hy (wkBack M a10 (fun x hx => ⟨(a12 x (hwc x hx)).1, (a12 x (hwc x hx)).2.1⟩) a6 w4 w3 hf hl hE a8.1 (fun x hx => (a12 x (hwc x hx)).2.2.1) (a1.2.2.2.2.2.2.1.alike a4.1.alike)) i1 i3 (g := mkF m pc Ls (argsL.reverse ++ .ref a :: rest)) rfl (hsz.trans a1.2.2.1.symm) (Steps.refl _) hlen rfl hW (hb a1.2.1 hd) (fun _ _ => ⟨rfl, a3, hc, hsl⟩)
  obtain ⟨U, dl, dc, ds⟩ := D
  dsimp only at X' hS hg b1 b2 b4 b5 c1 c2 c3 c4 stp
  subst c1 c2 c3
  obtain ⟨U2, o, q, r⟩ := K v U.heap os b1 b2 p e s m args below meth c U.vm U.heap.size U _ (A.back X' hS hg b2 b3 b4 b5 c4 hwc)
  exact ⟨U2, o, stp.trans q, r⟩
theorem wkP.old (K : Ext Z.heap h → wkP l Z B R hs w0 Q ws h k n pc Ls st) : wkP l Z B R hs w0 Q ws h k n pc Ls st := by
  intro p e s m args below meth c vm0 k0 T locs A
  exact K A.2.2.2.2.2.2.2.2.1.2 p e s m args below meth c vm0 k0 T locs A
theorem wkP.callF (pc' : Nat) {y : MethodName} {C : String} {B' : wkB} {rm : Room} {as : Array Value} {wc : List Addr} {Q' : Option Value → Heap → List Addr → Prop} {index count : Nat} (M : wkM l Z B' rm as h wc Q') (argsL rest : List Value) (W : Nat) (hE : EW Z a0 EL) (E : Exa Z h a C)
    (w1 : (Cond.methodLink B.1.cls index y).before a0 Z = true) (w1' : (Cond.declares y).before a0 Z = true) (wf : (Cond.interfaceMethod y.cls y.cls y.name y.desc).before a0 Z = true) (hfa : ((Cond.interfaceMethod y.cls y.cls y.name y.desc).onTables && (Cond.interfaceMethod y.cls y.cls y.name y.desc).keepsFace) = true) (w2 : (Cond.selects C y B'.1).before a0 Z = true) (w2' : (Cond.instanceMethod B'.1).before a0 Z = true) (wp : (Cond.publicMethod B'.1).before a0 Z = true) (wu : (Cond.unhidden C y.name y.desc).before a0 Z = true) (wk : (Cond.castable C y.cls).before a0 Z = true) (w3 : (Cond.initialized B'.1.cls).before a0 Z = true) (w4 : (Cond.code B'.1 B'.2.1 B'.2.2.1 B'.2.2.2).before a0 Z = true)
    (hy : y.cls ≠ "java/lang/invoke/MethodHandle" ∧ y.cls ≠ "java/lang/invoke/VarHandle") (hd : decode B.2.1 pc = .ok (.invokeinterface index count, 5)) (hlen : ∀ sig, parseMethodDescriptor y.desc = some sig → argsL.length = sig.parameters.length) (has : (.ref a :: argsL).toArray = as) (hst : st = argsL.reverse ++ .ref a :: rest) (hsz : Ls.size = B.2.2.1)
    (hwc : ∀ x ∈ wc, x ∈ ws) (hW : 2 * 0 + (rest.map fun v => v.category).sum ≤ W) (hf : rm.frames + 1 ≤ R.frames) (hl : W + (B'.2.2.1 + 11) + rm.locals ≤ R.locals) (hc : k + rm.cells ≤ R.cells) (hsl : n + rm.slots ≤ R.slots) (hp : pc + 5 = pc')
    (K : ∀ (v : Option Value) (h' : Heap) (os : List Addr), Q' v h' os → Keep h h' wc → wkP l Z B R hs w0 Q (os ++ ws) h' (k + rm.cells) (n + rm.slots) pc' Ls (v.toList ++ rest)) : wkP l Z B R hs w0 Q ws h k n pc Ls st := by
  subst hp hst has
  intro p e s m args below meth c vm0 k0 T locs A
  obtain ⟨a1, a2, a3, ⟨a4, a5⟩, a6, a7, a8, a9, a10, a11, a12⟩ := id A
  obtain ⟨cq, kq, i1, i2, i3⟩ := isOf (s := s.setVm vm0) a6 a3 E
  obtain ⟨v, vm₁, D, -, X', hS, hg, ⟨L, os, ⟨b1, b2, b3, b4, b5⟩, c1, c2, c3, c4⟩, stp⟩ := a2.interfaceBackS a1.1 (xi := y) (y := B'.1) a7 (mvT (s := s.setVm vm0) a6 w1) (mvT (s := s.setVm vm0) a6 w1') (mvT (s := s.setVm vm0) a6 wf hfa) (mvT (s := s.setVm vm0) a6 w2) (mvT (s := s.setVm vm0) a6 w2') (mvT (s := s.setVm vm0) a6 wp) (mvT (s := s.setVm vm0) a6 wu) (mvT (s := s.setVm vm0) a6 wk) hy (wkBack M a10 (fun x hx => ⟨(a12 x (hwc x hx)).1, (a12 x (hwc x hx)).2.1⟩) a6 w4 w3 hf hl hE a8.1 (fun x hx => (a12 x (hwc x hx)).2.2.1) (a1.2.2.2.2.2.2.1.alike a4.1.alike)) i1 i2 i3 (g := mkF m pc Ls (argsL.reverse ++ .ref a :: rest)) rfl (hsz.trans a1.2.2.1.symm) (Steps.refl _) hlen rfl hW (hb a1.2.1 hd) (fun _ _ => ⟨rfl, a3, hc, hsl⟩)
  obtain ⟨U, dl, dc, ds⟩ := D
  dsimp only at X' hS hg b1 b2 b4 b5 c1 c2 c3 c4 stp
  subst c1 c2 c3
  obtain ⟨U2, o, q, r⟩ := K v U.heap os b1 b2 p e s m args below meth c U.vm U.heap.size U _ (A.back X' hS hg b2 b3 b4 b5 c4 hwc)
  exact ⟨U2, o, stp.trans q, r⟩
theorem wkMore {s U : State} {o : Outcome} {L : List Loc} {k n k1 n1 : Nat} (hE : ReturnedEndW s o U L k n) (hk : k ≤ k1) (hn : n ≤ n1) : ReturnedEndW s o U L k1 n1 := ⟨hE.1, hE.2.1, hE.2.2.1, hE.2.2.2.mono hk hn⟩
theorem wkP.leave {rv : Option Value} {stk : List Value} (os : List Addr) (hE : EW Z a0 EL) (hq : Q rv h os) (hos : ∀ x ∈ os, x ∈ ws) (hk : k ≤ R.cells) (hn : n ≤ R.slots) (hv : B.2.2.2 = none → rv = none)
    (hst : ∀ (p : Program) (e : Env) (s : State) (m : MethodId) (args : Array Value) (below : List Frame) (meth : Method) (c : Code) (vm0 : Vm) (T : State) (locs : List Loc), p.tables.exec = Jvm.exec → c.code = B.2.1 → meth.sig.returnType = B.2.2.2 → Stand p l e R (s.setVm vm0) m args below meth c T locs k n → ∀ fs, (∀ (f : JFrame) (acts : List Action), f.method = m → f.locked = none → f.entered = [] → (doReturn e (T.setTop f) acts rv).1 = T.setFrames fs) → Steps p.tables e below (T.setTop (mkF m pc Ls stk)) (T.setFrames fs)) : wkP l Z B R hs w0 Q ws h k n pc Ls stk := by
  intro p e s m args below meth c vm0 k0 T locs A
  obtain ⟨a1, a2, a3, ⟨a4, a5⟩, a6, a7, a8, a9, a10, a11, a12⟩ := A
  obtain ⟨fs, hr, hrun, hended, hend⟩ := a2.leaveW a4 (by rw [a3]; exact a5) (v := rv) (fun q => hv (a1.2.2.2.1.symm.trans q)) a1.2.2.2.2.1
  have C1 := CHv.at a2 a6 hE a8.1
  subst a3
  exact ⟨_, _, hst p e s m args below meth c vm0 T locs a1.1 a1.2.1 a1.2.2.2.1 a2 fs hr, hrun, hended, rv, locs, rfl, ⟨os, hq, a11, a9, a10, fun x hx => ⟨(a12 x (hos x hx)).1, (a12 x (hos x hx)).2.1, C1.safe (a12 x (hos x hx)).2.1 (a12 x (hos x hx)).2.2.1, (a12 x (hos x hx)).2.2.2⟩⟩, a8.trans C1, wkMore hend hk hn⟩
theorem wkP.ret {i : Instr} {w : Value} (t : FieldType) (os : List Addr) (hE : EW Z a0 EL) (hd : decode B.2.1 pc = .ok (i, 1)) (hret : B.2.2.2 = some t) (hnr : narrow t w = w)
    (hi : (i = .ireturn ∧ (t = .int ∨ t = .boolean ∨ t = .byte ∨ t = .char ∨ t = .short) ∧ ∃ z, w = .int z) ∨ (i = .lreturn ∧ t = .long ∧ ∃ z, w = .long z) ∨ (i = .dreturn ∧ t = .double ∧ ∃ z, w = .double z) ∨ (i = .freturn ∧ t = .float ∧ ∃ z, w = .float z) ∨ (i = .areturn ∧ t.isReference = true ∧ w.isRef = true))
    (hk : k ≤ R.cells) (hn : n ≤ R.slots) (hos : ∀ x ∈ os, x ∈ ws) (hq : Q (some w) h os) : wkP l Z B R hs w0 Q ws h k n pc Ls (w :: st) :=
  .leave os hE hq hos hk hn (fun q => by rw [hret] at q; cases q) (fun p e s m args below meth c vm0 T locs hx hby hr X fs hl => retOut X hx (hr.trans hret) hnr hi (hb hby hd) hl)
theorem wkP.retA {a : Addr} (t : FieldType) (os : List Addr) (hE : EW Z a0 EL) (hd : decode B.2.1 pc = .ok (.areturn, 1)) (hret : B.2.2.2 = some t) (ht : t.isReference = true)
    (hk : k ≤ R.cells) (hn : n ≤ R.slots) (hos : ∀ x ∈ os, x ∈ ws) (hq : Q (some (.ref a)) h os) : wkP l Z B R hs w0 Q ws h k n pc Ls (.ref a :: st) :=
  .ret t os hE hd hret (by cases t <;> first | rfl | exact Bool.noConfusion ht) (Or.inr (Or.inr (Or.inr (Or.inr ⟨rfl, ht, rfl⟩)))) hk hn hos hq
theorem wkP.retI {z : Int32} (t : FieldType) (os : List Addr) (hE : EW Z a0 EL) (hd : decode B.2.1 pc = .ok (.ireturn, 1)) (hret : B.2.2.2 = some t) (ht : t = .int ∨ t = .boolean ∨ t = .byte ∨ t = .char ∨ t = .short) (hnr : narrow t (.int z) = .int z)
    (hk : k ≤ R.cells) (hn : n ≤ R.slots) (hos : ∀ x ∈ os, x ∈ ws) (hq : Q (some (.int z)) h os) : wkP l Z B R hs w0 Q ws h k n pc Ls (.int z :: st) :=
  .ret t os hE hd hret hnr (Or.inl ⟨rfl, ht, z, rfl⟩) hk hn hos hq
theorem wkP.ret0 (os : List Addr) (hE : EW Z a0 EL) (hd : decode B.2.1 pc = .ok (.return_, 1)) (hret : B.2.2.2 = none)
    (hk : k ≤ R.cells) (hn : n ≤ R.slots) (hos : ∀ x ∈ os, x ∈ ws) (hq : Q none h os) : wkP l Z B R hs w0 Q ws h k n pc Ls [] :=
  .leave os hE hq hos hk hn (fun _ => rfl) (fun p e s m args below meth c vm0 T locs hx hby hr X fs hl => X.returnOut hx (hr.trans hret) (hb hby hd) hl)
theorem wkM.of {B : wkB} {rm : Room} {as : Array Value} {w0 : List Addr} (Ls : Array Slot) (hpl : plainFor B.1 = true) (he : ∀ m, entryFrame m as B.2.2.1 = mkF m 0 Ls []) (K : wkP l Z B rm h w0 Q w0 h 0 0 0 Ls []) : wkM l Z B rm as h w0 Q := by
  intro hO hw
  refine MetFree.of_bodySF hpl hisR ?_
  intro p e s m args below meth c s₁ Bd hml hP hK
  obtain ⟨rfl, hZ, hh, hC, hS⟩ := hP
  have X0 : Stand p l e rm s m args below meth c s₁ [] 0 0 := Stand.of_body Bd
  have e0 : s₁.heap = h := by rw [← hh, Bd.state]; rfl
  subst hh
  obtain ⟨U, o, st, r⟩ := K p e s m args below meth c s.vm s.heap.size s₁ [] ⟨⟨Bd.exec, Bd.bytes, hml, Bd.returns, Bd.notSynchronized, (name_of_methodNamed Bd.named Bd.method).1, hK, hO.2⟩, X0, e0, ⟨(State.WarmedH.refl s).since _, Nat.le_refl _⟩, hZ, findClass_of_methodNamed Bd.named, CHr.refl hC, Fr.nil _, hO, Keep.refl _ _, fun x hx => ⟨(hw x hx).1, (hw x hx).2, hS x hx, Or.inl hx⟩⟩
  exact ⟨U, o, castTop (he m) st, r⟩
theorem wkM.mono {B : wkB} {rm : Room} {as : Array Value} {w0 : List Addr} {Q2 : Option Value → Heap → List Addr → Prop} (M : wkM l Z B rm as h w0 Q) (q : ∀ v h' os, Q v h' os → Q2 v h' os) : wkM l Z B rm as h w0 Q2 := by
  intro hO hw p e ha hc hk s m args below hf happ hP hK
  obtain ⟨n, o, h1, h2, h3, v, L, e1, ⟨os, b1, b2⟩, r⟩ := M hO hw p e ha hc hk s m args below hf happ hP hK
  exact ⟨n, o, h1, h2, h3, v, L, e1, ⟨os, q _ _ _ b1, b2⟩, r⟩
end Rules2
end WK
section WK2
variable {l : Launch} {Z : State} {B : wkB} {R : Room} {hs : Heap} {w0 : List Addr} {Q : Option Value → Heap → List Addr → Prop} {ws : List Addr} {h : Heap} {k n pc : Nat} {Ls : Array Slot} {st : List Value} {a0 : Array Value}
variable {p : Program} {e : Env} {s : State} {m : MethodId} {args : Array Value} {below : List Frame} {meth : Method} {c : Code} {vm0 : Vm} {k0 : Nat} {T T' : State} {locs L' : List Loc} {h' : Heap} {k' n' : Nat} {a b : Addr} {sl : Nat} {v : Value}
theorem wkAt.keeps (A : wkAt p l e R s m args below meth c Z B hs w0 ws h k n vm0 k0 T locs) (X' : Stand p l e R (s.setVm vm0) m args below meth c T' L' k' n') (e' : T'.heap = h') (N : Fr Z.heap.size L') (K : Keep h h' [a]) (ha : a ∈ ws) : wkAt p l e R s m args below meth c Z B hs w0 ws h' k' n' vm0 k0 T' L' := by
  obtain ⟨a1, -, -, ⟨a4, a5⟩, a6, a7, a8, a9, a10, a11, a12⟩ := A
  obtain ⟨s1, s2, s3, s4⟩ := a12 a ha
  have hS : ∀ x ∈ [a], Safe Z EL vm0 h x := fun x hx => by simp at hx; rw [hx]; exact s3
  exact ⟨a1, X', e', ⟨a4, Nat.le_trans a5 K.1⟩, a6, a7, a8.trans (CHr.keep K hS a8.1), N, a10.keep K (fun x hx => by simp at hx; rw [hx]; exact s1), a11.trans K (fun x hx => by simp at hx; rw [hx]; exact s4), fun x hx => ⟨(a12 x hx).1, Nat.lt_of_lt_of_le (a12 x hx).2.1 K.1, Safe.keep K hS a8.1 (a12 x hx).2.2.1, (a12 x hx).2.2.2⟩⟩
/-- System.arraycopy between byte[]s: n places from sp to dp -/
theorem wkP.copy (pc' : Nat) {index : Nat} {xs ys : List Int32} (sp dp nn W : Nat) {i j z : Int32} (F : Ia Z h a .byte xs) (D : Ia Z h b .byte ys)
    (w1 : (Cond.methodLink B.1.cls index Jvm.Stand.acN).before a0 Z = true) (w2 : (Cond.native Jvm.Stand.acN).before a0 Z = true) (w3 : (Cond.static Jvm.Stand.acN).before a0 Z = true) (w4 : (Cond.initialized "java/lang/System").before a0 Z = true)
    (hd : decode B.2.1 pc = .ok (.invokestatic index, 3)) (hi : i.toInt = (sp : Int)) (hj : j.toInt = (dp : Int)) (hz : z.toInt = (nn : Int)) (h1 : sp + nn ≤ xs.length) (h2 : dp + nn ≤ ys.length) (hb : b ∈ ws) (hsz : Ls.size = B.2.2.1)
    (hf : 1 ≤ R.frames) (hW : 2 * 0 + (st.map fun v => v.category).sum ≤ W) (hlo : W + (nativeFrameWords "java/lang/System" "arraycopy" 5 + 11) ≤ R.locals) (hp : pc + 3 = pc')
    (K : ∀ h' : Heap, Keep h h' [b] → Ia Z h' b .byte (ys.take dp ++ (xs.drop sp).take nn ++ ys.drop (dp + nn)) → wkP l Z B R hs w0 Q ws h' k n pc' Ls st) : wkP l Z B R hs w0 Q ws h k n pc Ls (.int z :: .int j :: .ref b :: .int i :: .ref a :: st) := by
  subst hp
  intro p e s m args below meth c vm0 k0 T locs A
  obtain ⟨kx, Ax⟩ := F.arv
  obtain ⟨ky, Ay⟩ := D.arv
  have lx := F.len
  have ly := D.len
  have qx : (Int32.ofNat xs.length).toNatClampNeg = xs.length := clamp_of rfl lx
  have qy : (Int32.ofNat ys.length).toNatClampNeg = ys.length := clamp_of rfl ly
  obtain ⟨i1, i2⟩ := nat_of_toInt hi
  obtain ⟨j1, j2⟩ := nat_of_toInt hj
  obtain ⟨z1, z2⟩ := nat_of_toInt hz
  obtain ⟨T', h', L', X', e', N', K', A', stp⟩ := cpA A.2.1 A.1.1 A.2.2.2.2.1 A.2.2.2.2.2.1 w1 w2 w3 w4 A.2.2.1 (sp := i) (dp := j) (nn := z) Ax Ay (Or.inl ⟨rfl, rfl⟩) i1 j1 z1 (by rw [i2, z2, qx]; exact h1) (by rw [j2, z2, qy]; exact h2) rfl (by rw [j2, z2]; simpa using h2) A.2.2.2.2.2.2.2.1 ((A.2.2.2.2.2.2.2.2.2.2 b hb).1) (g := mkF m pc Ls (.int z :: .int j :: .ref b :: .int i :: .ref a :: st)) rfl (hsz.trans A.1.2.2.1.symm) rfl (Jvm.hb A.1.2.1 hd) hf hW hlo
  have F' : Ia Z h' b .byte (ys.take dp ++ (xs.drop sp).take nn ++ ys.drop (dp + nn)) := by
    refine Ia.of_arv A' ?_ ?_
    · rw [i2, j2, z2]
      simp only [List.map_append, List.map_take, List.map_drop]
      congr 2
      refine List.ext_getElem? fun t => ?_
      rcases Nat.lt_or_ge t nn with q | q
      · simp [q, List.getElem?_take, List.getElem?_drop, List.getD_eq_getElem?_getD, show sp + t < xs.length by omega]
      · rw [List.getElem?_eq_none (by simpa using q), List.getElem?_eq_none (by simp; omega)]
    · rw [qy, i2, j2, z2]; simp; omega
  obtain ⟨U, o, q, r⟩ := K h' K' F' p e s m args below meth c vm0 k0 T' L' (A.keeps X' e' N' K' hb)
  exact ⟨U, o, stp _ q, r⟩
/-- a primitive array, and its class by name -/
theorem wkP.newPE (pc' : Nat) {aty : ArrayType} (ty : FieldType) (ad : String) (N cap : Nat) {z : Int32} (w : (Cond.arrayClass ty).before a0 Z = true) (hty : newarray.typeOf aty = ty) (had : "[" ++ ty.toString = ad) (hdv : defaultValue ty = .int 0) (hf : fits ty (.int 0) = true) (hd : decode B.2.1 pc = .ok (.newarray aty, 2)) (hz : z.toInt = (N : Int)) (hcap : N ≤ cap) (hb8 : cap * 8 ≤ 536870912) (hc : k + 1 ≤ R.cells) (hl : n + cap ≤ R.slots) (hp : pc + 2 = pc')
    (K : ∀ (h' : Heap) (a : Addr), h.size ≤ a → h'.size > a → Keep h h' [] → Ia Z h' a ty (List.replicate N 0) → Exa Z h' a ad → wkP l Z B R hs w0 Q (a :: ws) h' (k + 1) (n + cap) pc' Ls (.ref a :: st)) : wkP l Z B R hs w0 Q ws h k n pc Ls (.int z :: st) := by
  subst hp hty
  obtain ⟨z1, z2⟩ := nat_of_toInt hz
  intro p e s m args below meth c vm0 k0 T locs A
  obtain ⟨T', h', cA, X', e', E', A', G', stp⟩ := RoadKit.newPE A.2.1 A.1.1 A.2.2.2.2.1 w A.2.2.1 (g := mkF m pc Ls (.int z :: st)) rfl (hb A.1.2.1 hd) rfl z1 (cap := cap) (by omega) hb8 hc hl had
  have F : Ia Z h' h.size (newarray.typeOf aty) (List.replicate N 0) := ⟨_, A', by simp [newA, z2, hdv], fun x hx => by rw [List.eq_of_mem_replicate hx]; exact hf, by simp; omega⟩
  obtain ⟨U, o, q, r⟩ := K h' h.size (Nat.le_refl _) A'.lt (keepExt E') F G' p e s m args below meth c vm0 k0 T' locs (A.push X' e' E' (Nat.le_refl _) A'.lt)
  exact ⟨U, o, stp _ q, r⟩
/-- a method that the class inherits, called on super -/
theorem wkP.callU (pc' : Nat) {C : String} {B' : wkB} {rm : Room} {as : Array Value} {wc : List Addr} {Q' : Option Value → Heap → List Addr → Prop} {index : Nat} (M : wkM l Z B' rm as h wc Q') (argsL rest : List Value) (W : Nat) (hE : EW Z a0 EL) (E : Ins Z h a C true)
    (w1 : (Cond.methodLink B.1.cls index B'.1).before a0 Z = true) (w1' : (Cond.sameMethod B'.1.cls B'.1.cls B'.1.name B'.1.desc).before a0 Z = true) (w2 : (Cond.instanceMethod B'.1).before a0 Z = true) (ws4 : (Cond.superclass B.1.cls B'.1.cls).before a0 Z = true) (hnm : B'.1.name ≠ "<init>") (w3 : (Cond.initialized B'.1.cls).before a0 Z = true) (w4 : (Cond.code B'.1 B'.2.1 B'.2.2.1 B'.2.2.2).before a0 Z = true)
    (hd : decode B.2.1 pc = .ok (.invokespecial index, 3)) (hlen : ∀ sig, parseMethodDescriptor B'.1.desc = some sig → argsL.length = sig.parameters.length) (has : (.ref a :: argsL).toArray = as) (hst : st = argsL.reverse ++ .ref a :: rest) (hsz : Ls.size = B.2.2.1)
    (hwc : ∀ x ∈ wc, x ∈ ws) (hW : 2 * 0 + (rest.map fun v => v.category).sum ≤ W) (hf : rm.frames + 1 ≤ R.frames) (hl : W + (B'.2.2.1 + 11) + rm.locals ≤ R.locals) (hc : k + rm.cells ≤ R.cells) (hsl : n + rm.slots ≤ R.slots) (hp : pc + 3 = pc')
    (K : ∀ (v : Option Value) (h' : Heap) (os : List Addr), Q' v h' os → Keep h h' wc → wkP l Z B R hs w0 Q (os ++ ws) h' (k + rm.cells) (n + rm.slots) pc' Ls (v.toList ++ rest)) : wkP l Z B R hs w0 Q ws h k n pc Ls st := by
  subst hp hst has
  intro p e s m args below meth c vm0 k0 T locs A
  obtain ⟨a1, a2, a3, ⟨a4, a5⟩, a6, a7, a8, a9, a10, a11, a12⟩ := id A
  obtain ⟨v, vm₁, D, -, X', hS, hg, ⟨L, os, ⟨b1, b2, b3, b4, b5⟩, c1, c2, c3, c4⟩, stp⟩ := superBackS a2 a1.1 (Z := Z) a6 a7 w1 w1' w2 ws4 hnm (wkBack M a10 (fun x hx => ⟨(a12 x (hwc x hx)).1, (a12 x (hwc x hx)).2.1⟩) a6 w4 w3 hf hl hE a8.1 (fun x hx => (a12 x (hwc x hx)).2.2.1) (a1.2.2.2.2.2.2.1.alike a4.1.alike)) a3 E (g := mkF m pc Ls (argsL.reverse ++ .ref a :: rest)) rfl (hsz.trans a1.2.2.1.symm) w4 hlen rfl hW (hb a1.2.1 hd) (fun _ _ => ⟨rfl, a3, hc, hsl⟩)
  obtain ⟨U, dl, dc, ds⟩ := D
  dsimp only at X' hS hg b1 b2 b4 b5 c1 c2 c3 c4 stp
  subst c1 c2 c3
  obtain ⟨U2, o, q, r⟩ := K v U.heap os b1 b2 p e s m args below meth c U.vm U.heap.size U _ (A.back X' hS hg b2 b3 b4 b5 c4 hwc)
  exact ⟨U2, o, stp.trans q, r⟩
end WK2
section WK3
variable {l : Launch} {Z : State} {B : wkB} {R : Room} {hs : Heap} {w0 : List Addr} {Q : Option Value → Heap → List Addr → Prop} {ws : List Addr} {h : Heap} {k n pc : Nat} {Ls : Array Slot} {st : List Value} {a0 : Array Value}
variable {p : Program} {e : Env} {s : State} {m : MethodId} {args : Array Value} {below : List Frame} {meth : Method} {c : Code} {vm0 : Vm} {k0 : Nat} {T T' : State} {locs L' : List Loc} {h' : Heap} {k' n' : Nat} {a b : Addr} {sl : Nat} {v : Value}
theorem wkDecl {y : MethodName} {bs : ByteArray} {ml : Nat} {rt : Option FieldType} (w2 : (Cond.instanceMethod y).before a0 Z = true) (w4 : (Cond.code y bs ml rt).before a0 Z = true) : (Cond.declares y).before a0 Z = true := by
  obtain ⟨mk, me, h1, h2, h3, -⟩ := Cond.instanceMethod_spec w2
  obtain ⟨m2, c2, q1, -, -, -, -, -, -, q2⟩ := Cond.code_spec h1 w4
  cases h2.symm.trans q1
  simp [Cond.before, Cond.holds, Cond.value, h1, h2, h3, q2]
/-- a class that one of its methods is selected from is no interface -/
theorem wkNFo {C : String} {y z : MethodName} (w : (Cond.selects C z z).before a0 Z = true) (hc : z.cls = y.cls) : ∀ s : State, Z.Warmed39 s.vm → NotFace s y := fun s hZ r0 h0 => by
  obtain ⟨c2, r2, m2, q1, q2, q3, q4, kP, hkP, hkPi⟩ := Cond.selects_spec (mvT (args := #[]) hZ w)
  have e1 := findClass_of_methodNamed h0
  have e2 := findClass_of_methodNamed q3
  rw [hc] at e2
  have e3 : r0.cls = m2.cls := Option.some.inj (e1.symm.trans e2)
  exact ⟨kP, by rw [e3]; exact hkP, hkPi⟩
theorem wkSame {C : String} {y z : MethodName} (hy : y.cls ≠ "java/lang/invoke/MethodHandle" ∧ y.cls ≠ "java/lang/invoke/VarHandle") (w : (Cond.selects C z z).before a0 Z = true) (hc : z.cls = y.cls) (w2 : (Cond.instanceMethod y).before a0 Z = true) : (Cond.sameMethod y.cls y.cls y.name y.desc).before a0 Z = true := by
  obtain ⟨mk, me, h1, h2, h3, -⟩ := Cond.instanceMethod_spec w2
  obtain ⟨kr, g1, g2⟩ := wkNFo w hc Z (State.Warmed39.refl Z) mk h1
  have e1 := findClass_of_methodNamed h1
  have e2 := State.methodFound?_of_named h1 hy
  simp [Cond.before, Cond.holds, Cond.value, h1, e1, e2, g1, g2]
/-- a virtual call of a method that the named class inherits -/
theorem virtualBackSUp (X : Stand p l e R s m args below meth c T locs k n) (hexec : p.tables.exec = Jvm.exec) {own C owner : String} {index : Nat} {x y : MethodName}
    (hown : s.vm.findClass own = some m.cls) (hlink : (Cond.methodLink own index x).before args s = true) (hsame : (Cond.sameMethod x.cls owner x.name x.desc).before args s = true)
    (hdecl : (Cond.declares ⟨owner, x.name, x.desc⟩).before args s = true) (howner : owner ≠ "java/lang/invoke/MethodHandle" ∧ owner ≠ "java/lang/invoke/VarHandle")
    (hsel : (Cond.selects C x y).before args s = true) (hinst : (Cond.instanceMethod y).before args s = true)
    {W : Nat} {Pre : Pt → Array Value → Prop} {Post : Pt → Array Value → Option Value → Pt → Prop} (hK : BackS l R p e below s args y 3 W Pre Post)
    {b : Addr} {cB : ClassId} (hcB : s.vm.findClass C = some cB) (hrecv : IsOf cB T b)
    {g : JFrame} (hg : g.method = m) (hsize : g.locals.size = c.maxLocals) {argsL rest : List Value}
    (hlen : ∀ sig, parseMethodDescriptor x.desc = some sig → argsL.length = sig.parameters.length) (hstack : g.stack = argsL.reverse ++ .ref b :: rest) (hW : 2 * g.monitorRoom + (rest.map fun v => v.category).sum ≤ W)
    (hdg : decode c.code g.pc = .ok (.invokevirtual index, 3)) (hpre : ∀ vm₁, s.WarmedH vm₁ → Pre ⟨T.setVm vm₁, locs, k, n⟩ (.ref b :: argsL).toArray) :
    ∃ (v : Option Value) (vm₁ : Vm) (B : Pt), s.WarmedH vm₁ ∧ Stand p l e R (s.setVm B.U.vm) m args below meth c B.U B.locs B.cells B.slots ∧ s.Since B.U.vm B.U.heap.size ∧ T.heap.size ≤ B.U.heap.size ∧ Post ⟨T.setVm vm₁, locs, k, n⟩ (.ref b :: argsL).toArray v B ∧
      Steps p.tables e below (T.setTop g) (B.U.setTop { g with pc := g.pc + 3, stack := v.toList ++ rest }) := by
  obtain ⟨cellB, hcellT, hclsB, hstatB⟩ := hrecv
  obtain ⟨r0, r, hn, hrm, hstR, hsigR⟩ := Cond.declares_spec hdecl
  obtain ⟨cn, ck, r1, hcn, hck, hni, hf, hn1⟩ := Cond.sameMethod_found hsame
  cases hn.symm.trans hn1
  obtain ⟨mk, methM, hnamed, hmethM, -, habM⟩ := Cond.instanceMethod_spec hinst
  obtain ⟨c2, r2, m2, q1, q2, q3, q4, kP, hkP, hkPi⟩ := Cond.selects_spec hsel
  cases hcB.symm.trans q1
  cases hf.symm.trans q2
  cases hnamed.symm.trans q3
  have hselP : selectMethod e.platform s.vm cellB.cls r0 = .method mk := by rw [Launch.admits_selectMethod X.admits, hclsB]; exact q4
  obtain ⟨vm₁, X₁, hstep₁⟩ := X.invokevirtualUp hexec hown hlink hsame howner hn hrm hstR (a := b) (cell := cellB) hcellT
    (fun z h => by rw [h] at hstatB; cases hstatB) hselP hmethM habM hkP hkPi (g := g) hg (argsL := argsL) (rest := rest) (hlen _ hsigR) hstack hdg
  obtain ⟨v, B, X', hS, hgr, hpost, hsteps⟩ := hK m meth c ⟨T.setVm vm₁, locs, k, n⟩ { g with stack := rest } (.invokevirtual index) mk (.ref b :: argsL).toArray X₁ hg hsize hdg hW (X₁.named hnamed) (hpre vm₁ X₁.warmed)
  exact ⟨v, vm₁, B, X₁.warmed, X', hS, hgr, hpost, (hstep₁ _ fun acts => by rw [doInvoke_state]; exact Steps.refl _).trans hsteps⟩
theorem wkP.callW (pc' : Nat) {y : MethodName} {C owner : String} {B' : wkB} {rm : Room} {as : Array Value} {wc : List Addr} {Q' : Option Value → Heap → List Addr → Prop} {index : Nat} (M : wkM l Z B' rm as h wc Q') (argsL rest : List Value) (W : Nat) (hE : EW Z a0 EL) (E : Exa Z h a C)
    (w1 : (Cond.methodLink B.1.cls index y).before a0 Z = true) (ws1 : (Cond.sameMethod y.cls owner y.name y.desc).before a0 Z = true) (w1' : (Cond.declares ⟨owner, y.name, y.desc⟩).before a0 Z = true) (ho : owner ≠ "java/lang/invoke/MethodHandle" ∧ owner ≠ "java/lang/invoke/VarHandle") (w2 : (Cond.selects C y B'.1).before a0 Z = true) (w2' : (Cond.instanceMethod B'.1).before a0 Z = true) (w3 : (Cond.initialized B'.1.cls).before a0 Z = true) (w4 : (Cond.code B'.1 B'.2.1 B'.2.2.1 B'.2.2.2).before a0 Z = true)
    (hd : decode B.2.1 pc = .ok (.invokevirtual index, 3)) (hlen : ∀ sig, parseMethodDescriptor y.desc = some sig → argsL.length = sig.parameters.length) (has : (.ref a :: argsL).toArray = as) (hst : st = argsL.reverse ++ .ref a :: rest) (hsz : Ls.size = B.2.2.1)
    (hwc : ∀ x ∈ wc, x ∈ ws) (hW : 2 * 0 + (rest.map fun v => v.category).sum ≤ W) (hf : rm.frames + 1 ≤ R.frames) (hl : W + (B'.2.2.1 + 11) + rm.locals ≤ R.locals) (hc : k + rm.cells ≤ R.cells) (hsl : n + rm.slots ≤ R.slots) (hp : pc + 3 = pc')
    (K : ∀ (v : Option Value) (h' : Heap) (os : List Addr), Q' v h' os → Keep h h' wc → wkP l Z B R hs w0 Q (os ++ ws) h' (k + rm.cells) (n + rm.slots) pc' Ls (v.toList ++ rest)) : wkP l Z B R hs w0 Q ws h k n pc Ls st := by
  subst hp hst has
  intro p e s m args below meth c vm0 k0 T locs A
  obtain ⟨a1, a2, a3, ⟨a4, a5⟩, a6, a7, a8, a9, a10, a11, a12⟩ := id A
  obtain ⟨cq, kq, i1, i2, i3⟩ := isOf (s := s.setVm vm0) a6 a3 E
  obtain ⟨v, vm₁, D, -, X', hS, hg, ⟨L, os, ⟨b1, b2, b3, b4, b5⟩, c1, c2, c3, c4⟩, stp⟩ := virtualBackSUp a2 a1.1 (x := y) (y := B'.1) a7 (mvT (s := s.setVm vm0) a6 w1) (mvT (s := s.setVm vm0) a6 ws1) (mvT (s := s.setVm vm0) a6 w1') ho (mvT (s := s.setVm vm0) a6 w2) (mvT (s := s.setVm vm0) a6 w2') (wkBack M a10 (fun x hx => ⟨(a12 x (hwc x hx)).1, (a12 x (hwc x hx)).2.1⟩) a6 w4 w3 hf hl hE a8.1 (fun x hx => (a12 x (hwc x hx)).2.2.1) (a1.2.2.2.2.2.2.1.alike a4.1.alike)) i1 i3 (g := mkF m pc Ls (argsL.reverse ++ .ref a :: rest)) rfl (hsz.trans a1.2.2.1.symm) hlen rfl hW (hb a1.2.1 hd) (fun _ _ => ⟨rfl, a3, hc, hsl⟩)
  obtain ⟨U, dl, dc, ds⟩ := D
  dsimp only at X' hS hg b1 b2 b4 b5 c1 c2 c3 c4 stp
  subst c1 c2 c3
  obtain ⟨U2, o, q, r⟩ := K v U.heap os b1 b2 p e s m args below meth c U.vm U.heap.size U _ (A.back X' hS hg b2 b3 b4 b5 c4 hwc)
  exact ⟨U2, o, stp.trans q, r⟩
/-- byte[].clone() -/
theorem wkP.cloneB (pc' : Nat) {index : Nat} {xs : List Int32} {ty : FieldType} {ad : String} (cap W : Nat) (F : Ia Z h a ty xs) (E : Exa Z h a ad)
    (w1 : (Cond.methodLink B.1.cls index ⟨ad, "clone", "()Ljava/lang/Object;"⟩).before a0 Z = true) (w2 : (Cond.sameMethod ad "java/lang/Object" "clone" "()Ljava/lang/Object;").before a0 Z = true) (w3 : (Cond.native ⟨"java/lang/Object", "clone", "()Ljava/lang/Object;"⟩).before a0 Z = true)
    (w4 : (Cond.instanceMethod ⟨"java/lang/Object", "clone", "()Ljava/lang/Object;"⟩).before a0 Z = true) (w5 : (Cond.selects ad ⟨ad, "clone", "()Ljava/lang/Object;"⟩ ⟨"java/lang/Object", "clone", "()Ljava/lang/Object;"⟩).before a0 Z = true) (w6 : (Cond.castable ad "java/lang/Cloneable").before a0 Z = true)
    (hd : decode B.2.1 pc = .ok (.invokevirtual index, 3)) (hsz : Ls.size = B.2.2.1) (hcap : xs.length ≤ cap) (hf : 1 ≤ R.frames) (hW : 2 * 0 + (st.map fun v => v.category).sum ≤ W) (hl : W + 14 ≤ R.locals) (hc : k + 1 ≤ R.cells) (hsl : n + cap ≤ R.slots) (hp : pc + 3 = pc')
    (K : ∀ (h' : Heap) (d : Addr), h.size ≤ d → h'.size > d → Keep h h' [] → Ia Z h' d ty xs → Exa Z h' d ad → wkP l Z B R hs w0 Q (d :: ws) h' (k + 1) (n + cap) pc' Ls (.ref d :: st)) : wkP l Z B R hs w0 Q ws h k n pc Ls (.ref a :: st) := by
  subst hp
  intro p e s m args below meth c vm0 k0 T locs A
  obtain ⟨kx, Ax⟩ := F.arv
  have lx := F.len
  have qx : (Int32.ofNat xs.length).toNatClampNeg = xs.length := clamp_of rfl lx
  obtain ⟨T', h', X', e', E', A', G', stp⟩ := cloneH A.2.1 A.1.1 A.2.2.2.2.1 A.2.2.2.2.2.1 w1 w2 w3 w4 w5 w6 A.2.2.1 Ax.arh E (g := mkF m pc Ls (.ref a :: st)) rfl (hsz.trans A.1.2.2.1.symm) rfl (Jvm.hb A.1.2.1 hd) hf hW hl (cap := cap) (by rw [qx]; exact hcap) hc hsl
  have F' : Ia Z h' h.size ty xs := Ia.of_arv (show Arv Z h' h.size kx ty (Int32.ofNat xs.length) (xs.map Value.int) (.int 0) from A') rfl (by rw [qx]; simp)
  obtain ⟨U, o, q, r⟩ := K h' h.size (Nat.le_refl _) F'.lt (keepExt E') F' G' p e s m args below meth c vm0 k0 T' locs (A.push X' e' E' (Nat.le_refl _) F'.lt)
  exact ⟨U, o, stp _ q, r⟩
end WK3
section WK5
open Jvm.Free.Exc Jvm.Free.Str Jvm.Lib.Cold LibCode.Throwable
/-- what the sheet says of Throwable, for a receiver of class rc: the kit's own list less the one word that it lacks -/
def thWords (rc : String) : List Cond := (excAtoms rc).filter fun d => d ≠ .lays tN tN "suppressedExceptions" listD
theorem thMem {rc : String} {d : Cond} (h : d ∈ excAtoms rc) (hn : d ≠ .lays tN tN "suppressedExceptions" listD) : d ∈ thWords rc := List.mem_filter.mpr ⟨h, by simpa using hn⟩
/-- Throwable's links, the slots told apart by the words on rc -/
theorem thLinks {rc : String} (hrc : rc ≠ tN) {args : Array Value} {s : State} {pl : Platform} (howns : pl.frameOwnsMonitors = true) (hfin : pl.finalization = false) (hpl : pl.magicAccessors = ({} : Platform).magicAccessors) (h : ∀ d ∈ thWords rc, d.before args s = true) :
    ∃ T : ThrowableC, T.Links pl s ∧ s.vm.findClass tN = some T.cT ∧ s.methodNamed? tFill = some T.fill ∧ s.methodNamed? tFill0 = some T.fill0 ∧ s.fieldFound? tN "stackTrace" steD = some (T.cT, T.kT, T.i17, T.fStack) ∧ s.fieldFound? tN "UNASSIGNED_STACK" steD = some (T.cT, T.kT, T.i13, T.fUnassigned) ∧ T.fStack.name = "stackTrace" ∧ T.fStack.type = .array (.object "java/lang/StackTraceElement") ∧ ∃ cell, s.heap[T.aS]? = some cell ∧ cell.vm.isStatics = true := by
  have a : ∀ d, d ∈ excAtoms rc → d ≠ .lays tN tN "suppressedExceptions" listD → d.holds args s none s [] = true := fun d hd hn => h d (thMem hd hn)
  obtain ⟨⟨c, i0⟩, me0, n0, m0, nat0, co0, lk0, sg0⟩ := Cond.native_spec (a (.native tFill0) (by simp [excAtoms, throwableAtoms]) (by simp))
  have hc : s.vm.findClass tN = some c := findClass_of_methodNamed n0
  obtain ⟨k, hk, hnm⟩ := Vm.findClass_spec hc
  have hin := Cond.initialized_spec hc hk (a (.initialized tN) (by simp [excAtoms, throwableAtoms]) (by simp))
  obtain ⟨_, k1, _, _, hk1, _, _, hord, _, hni⟩ := Cond.superclass_spec hc (a (.superclass tN "java/lang/Object") (by simp [excAtoms, throwableAtoms]) (by simp))
  cases hk.symm.trans hk1
  obtain ⟨iF, meF, nF, mF, atF, stF, abF, -, -⟩ := Cond.ownMethod (x := tFill) hc hk (a (.instanceMethod tFill) (by simp [excAtoms, throwableAtoms]) (by simp))
  obtain ⟨meF', cF, mF', cdF, byF, loF, reF, lkF, -, sgF⟩ := Cond.codeSync_spec nF (a (.codeSync tFill Fill.code 1 (some (.object tN))) (by simp [excAtoms, throwableAtoms]) (by simp))
  cases mF.symm.trans mF'
  obtain ⟨i0', me0', n0', m0', at0, st0, ab0, nm0, ds0⟩ := Cond.ownMethod (x := tFill0) hc hk (a (.instanceMethod tFill0) (by simp [excAtoms, throwableAtoms]) (by simp))
  cases n0.symm.trans n0'
  cases m0.symm.trans m0'
  obtain ⟨iZ, meZ, nZ, mZ, atZ, -, -, -, -⟩ := Cond.ownMethod (x := tInit0) hc hk (a (.instanceMethod tInit0) (by simp [excAtoms, throwableAtoms]) (by simp))
  obtain ⟨meZ', cZ, mZ', cdZ, -, -, -, -, -, -⟩ := Cond.code_spec nZ (a (.code tInit0 Init0.code 1 none) (by simp [excAtoms, throwableAtoms]) (by simp))
  cases mZ.symm.trans mZ'
  obtain ⟨mO, meO, nO, mmO, stO, abO⟩ := Cond.instanceMethod_spec (a (.instanceMethod oInit) (by simp [excAtoms, throwableAtoms]) (by simp))
  obtain ⟨meO', cO, mmO', cdO, byO, -, -, lkO, -, sgO⟩ := Cond.code_spec nO (a (.code oInit ⟨#[0xb1]⟩ 1 none) (by simp [excAtoms, throwableAtoms]) (by simp))
  cases mmO.symm.trans mmO'
  obtain ⟨kO, hkO, hnO⟩ := Vm.findClass_spec (findClass_of_methodNamed nO)
  obtain ⟨nmO, dsO⟩ := name_of_methodNamed nO mmO
  obtain ⟨ci1, n1, cf, l1, r1, f1, p1⟩ := Cond.linkedMethod hc hk nO (a (.methodLink tN 1 oInit) (by simp [excAtoms, throwableAtoms]) (by simp)) pl hpl
  obtain ⟨ci27, n27, cf', l27, r27, f27, p27⟩ := Cond.linkedMethod hc hk nF (a (.methodLink tN 27 tFill) (by simp [excAtoms, throwableAtoms]) (by simp)) pl hpl
  cases f1.symm.trans f27
  obtain ⟨ci202, n202, cf', l202, r202, f202, p202⟩ := Cond.linkedMethod hc hk n0 (a (.methodLink tN 202 tFill0) (by simp [excAtoms, throwableAtoms]) (by simp)) pl hpl
  cases f1.symm.trans f202
  obtain ⟨ci7, i7, f7, k7, g7, t7, s7, x7, y7, z7, ff7⟩ := Cond.ownField (t := .object tN) hc hk (by decide +kernel) (a (.fieldLink tN 7 tN "cause" "Ljava/lang/Throwable;") (by simp [excAtoms, throwableAtoms]) (by simp)) (a (.lays rc tN "cause" "Ljava/lang/Throwable;") (by simp [excAtoms, thD]) (by simp)) pl hpl
  obtain ⟨ci17, i17, f17, k17, g17, t17, s17, x17, y17, z17, ff17⟩ := Cond.ownField (t := .array (.object "java/lang/StackTraceElement")) hc hk (by decide +kernel) (a (.fieldLink tN 17 tN "stackTrace" steD) (by simp [excAtoms, throwableAtoms]) (by simp)) (a (.lays rc tN "stackTrace" steD) (by simp [excAtoms]) (by simp)) pl hpl
  obtain ⟨ci24, i24, f24, k24, g24, t24, s24, x24, y24, z24, ff24⟩ := Cond.ownField (t := .object "java/util/List") hc hk (by decide +kernel) (a (.fieldLink tN 24 tN "suppressedExceptions" listD) (by simp [excAtoms, throwableAtoms]) (by simp)) (a (.lays rc tN "suppressedExceptions" listD) (by simp [excAtoms]) (by simp [hrc])) pl hpl
  obtain ⟨ci13, i13, f13, aS, ceS, k13, g13, t13, s13, -, -, sta, hce, his, -, -, ff13⟩ := Cond.ownStatic (t := .array (.object "java/lang/StackTraceElement")) hc hk (by decide +kernel) (a (.fieldLink tN 13 tN "UNASSIGNED_STACK" steD) (by simp [excAtoms, throwableAtoms]) (by simp)) (a (.laysStatic tN "UNASSIGNED_STACK" steD) (by simp [excAtoms, throwableAtoms]) (by simp)) pl hpl
  obtain ⟨ci20, i20, f20, _, _, k20, g20, t20, s20, -, -, -, -, -, -, -, ff20⟩ := Cond.ownStatic (t := .object "java/util/List") hc hk (by decide +kernel) (a (.fieldLink tN 20 tN "SUPPRESSED_SENTINEL" listD) (by simp [excAtoms, throwableAtoms]) (by simp)) (a (.laysStatic tN "SUPPRESSED_SENTINEL" listD) (by simp [excAtoms, throwableAtoms]) (by simp)) pl hpl
  obtain ⟨_, _, cM, kM, iM, fM, _, _, ffM, sM, xM, _⟩ := Cond.lays_spec (a (.lays tN tN "detailMessage" "Ljava/lang/String;") (by simp [excAtoms, throwableAtoms]) (by simp))
  obtain ⟨cR, kR, -, -, -, -, hcR, hkR, -⟩ := Cond.lays_spec (a (.lays rc tN "stackTrace" steD) (by simp [excAtoms]) (by simp))
  obtain ⟨-, d17, e17, e17n⟩ := Cond.laysAt hcR hkR ff17 (a (.lays rc tN "stackTrace" steD) (by simp [excAtoms]) (by simp))
  obtain ⟨-, d24, e24, e24n⟩ := Cond.laysAt hcR hkR ff24 (a (.lays rc tN "suppressedExceptions" listD) (by simp [excAtoms]) (by simp [hrc]))
  have hap : f17.slot ≠ f24.slot := Cond.laysApart e17 e24 e17n e24n (by rw [y17, y24]; decide)
  have pF : meF.sig.parameters = [] := by
    rw [show parseMethodDescriptor tFill.desc = some ⟨[], some (.object tN)⟩ from by decide +kernel] at sgF; rw [← Option.some.inj sgF]
  have p0 : me0.sig.parameters = [.int] := by
    rw [show parseMethodDescriptor tFill0.desc = some ⟨[.int], some (.object tN)⟩ from by decide +kernel] at sg0; rw [← Option.some.inj sg0]
  have pO : meO.sig.parameters.length = 0 := by
    rw [show parseMethodDescriptor oInit.desc = some ⟨[], none⟩ from by decide +kernel] at sgO; rw [← Option.some.inj sgO]; rfl
  refine ⟨{ cT := c, kT := k, cO := c, aS := aS, fillIdx := iF, fill0Idx := i0, initSIdx := iZ, obj := mO, kObj := kO, methFill := meF, methFill0 := me0, methInitS := meZ, methObj := meO, codeFill := cF, codeInitS := cZ, codeObj := cO, fBack := f7, fDepth := f7, fStack := f17, fCause := f7, fSupp := f24, fMsg := fM, fUnassigned := f13, fSentinel := f20, cfT := cf, ci1 := ci1, n1 := n1, ci27 := ci27, n27 := n27, ci202 := ci202, n202 := n202, ci7 := ci7, i7 := i7, ci13 := ci13, i13 := i13, ci17 := ci17, i17 := i17, ci20 := ci20, i20 := i20, ci24 := ci24, i24 := i24 }, ?_, hc, nF, n0, ff17, ff13, y17, z17, ceS, hce, his⟩
  exact { owns := howns, noFinalization := hfin, cls := hk, name := hnm, boot := Vm.findClass_boot hc hk, notInterface := hni, initialized := hin, statics := sta, fillAt := atF, fillCode := cdF, fillBytes := byF, fillLocals := loF, fillLocks := lkF, fillStatic := stF, fillAbstract := abF, fillReturns := reF, fillParams := pF, fill0At := at0, fill0Name := nm0, fill0Desc := ds0, fill0Params := p0, fill0Static := st0, fill0Native := nat0, fill0Code := co0, fill0Locks := lk0, fill0Abstract := ab0, stackInstance := s17, stackNotFinal := x17, unassignedStatic := s13, objClass := hkO, objClassName := hnO, objMethod := mmO, objName := nmO, objStatic := stO, objAbstract := abO, objFound := by rw [dsO]; exact lookupSpecial_of_named nO mmO stO, objParams := pO, objCode := cdO, objBytes := byO, objLocks := lkO, causeInstance := s7, causeNotFinal := x7, sentinelStatic := s20, suppInstance := s24, suppNotFinal := x24, msgInstance := sM, msgNotFinal := xM, stackApartSupp := hap, file := f1, mlink1 := l1, mright1 := r1, pool1 := p1, mlink27 := l27, mright27 := r27, pool27 := p27, mlink202 := l202, mright202 := r202, pool202 := p202, link7 := k7, right7 := g7, at7 := t7, link13 := k13, right13 := g13, at13 := t13, link17 := k17, right17 := g17, at17 := t17, link20 := k20, right20 := g20, at20 := t20, link24 := k24, right24 := g24, at24 := t24 }
end WK5
section WK6
open Jvm.Free.Exc Jvm.Free.Str Jvm.Lib.Cold LibCode.Throwable
variable {l : Launch} {Z : State} {a0 : Array Value}
theorem narrowR {t : FieldType} {u : Value} (hu : u.isRef = true) : narrow t u = u := narrow_refV t ⟨u, hu⟩
/-- the places that a walk has written are all at a: the other cells stand as at its start -/
theorem keepAt {p : Program} {e : Env} {R : Room} {s : State} {m : MethodId} {args : Array Value} {below : List Frame} {meth : Method} {c : Code} {T : State} {locs : List Loc} {k n : Nat} {a : Addr} (X : Stand p l e R s m args below meth c T locs k n) (hL : ∀ y ∈ locs, y.base = a) : Keep s.heap T.heap [a] := by
  refine ⟨X.same.2.1, fun x cx hx hn => ?_, fun x cx hx => ?_⟩
  · obtain ⟨c', h1, h2, h3, h4⟩ := X.same.2.2.2.2.2 x cx hx
    have e : c'.slots = cx.slots := Array.ext_getElem? fun i => h4 i fun hm => hn (by simp; exact (hL _ hm))
    rw [h2, e] at h1; exact h1
  · obtain ⟨c', h1, h2, h3, h4⟩ := X.same.2.2.2.2.2 x cx hx
    exact ⟨c', h1, by rw [h2], by rw [h2], h3⟩
theorem foundR {t : State} (hal : Z.vm.Alike t.vm) {o n d : String} {c i : Nat} {k : Class} {f : Field} (hi : Z.fieldFound? o n d = some (c, k, i, f)) : ∃ k' : Class, t.fieldFound? o n d = some (c, k', i, f) ∧ k'.statics = k.statics ∧ True := by
  obtain ⟨k', q, e⟩ := State.fieldFound?_setVm hal hi
  exact ⟨k', q, by rw [e], trivial⟩
theorem fldSlot {s : State} (hal : Z.vm.Alike s.vm) {h : Heap} {a : Addr} {C n d : String} {v : Value} {c i : Nat} {k : Class} {f : Field} {cell : Cell} (F : Fld Z h a C n d v) (hf : s.fieldFound? C n d = some (c, k, i, f)) (hc : h[a]? = some cell) : cell.slots[f.slot]? = some v := by
  obtain ⟨c1, cf, k1, i1, f1, h1, h2, -, -, -, -, h7⟩ := F
  cases h1.symm.trans hc
  obtain ⟨k', h2', -, -⟩ := foundR (t := s) hal h2
  cases h2'.symm.trans hf
  exact h7
set_option maxHeartbeats 16000000 in
/-- Throwable.<init>(String), up to the call of fillInStackTrace and over it; K27: what follows -/
theorem wkM.thI {rc : String} (hrc : rc ≠ tN) {bytes : ByteArray} {rm : Room} {nn : Nat} {h : Heap} {a : Addr} {msg u sen : Value} {Q : Option Value → Heap → List Addr → Prop} (hst : l.stackTraces = true) (hmsg : msg.isRef = true) (hE : EW Z a0 EL) (H : Head bytes) (W : ∀ d ∈ thWords rc, d.before a0 Z = true) (wi : (Cond.instantiable rc nn).before a0 Z = true)
    (hpl : plainFor ⟨tN, "<init>", "(Ljava/lang/String;)V"⟩ = true) (hu : u.isRef = true) (hs : sen.isRef = true) (SU : Sta Z Z.heap tN "UNASSIGNED_STACK" steD u) (SS : Sta Z Z.heap tN "SUPPRESSED_SENTINEL" listD sen)
    {vC vS vP : Value} (E : Exa Z h a rc) (N : Unt h a) (FC : Fld Z h a tN "cause" thD vC) (FS : Fld Z h a tN "stackTrace" steD vS) (FP : Fld Z h a tN "suppressedExceptions" listD vP) (FB : Fld Z h a tN "backtrace" obD .null) (FM : Fld Z h a tN "detailMessage" msgD .null)
    (hf : 3 ≤ rm.frames) (hlo : 42 ≤ rm.locals) (hce : 1 ≤ rm.cells) (hsl : 2752 ≤ rm.slots)
    (K27 : ∀ h' : Heap, Keep h h' [a] → Exa Z h' a rc → Fld Z h' a tN "detailMessage" msgD .null → wkP l Z (⟨tN, "<init>", "(Ljava/lang/String;)V"⟩, bytes, 2, none) rm h [a] Q [a] h' 1 2752 27 #[.val (.ref a), .val msg] [.ref a]) :
    wkM l Z (⟨tN, "<init>", "(Ljava/lang/String;)V"⟩, bytes, 2, none) rm #[.ref a, msg] h [a] Q := by
  intro hO hw
  refine MetFree.of_bodySF hpl hisR ?_
  intro p e s m args below meth c s₁ Bd hml hP hK
  obtain ⟨rfl, hZ, hh, hC, hS⟩ := hP
  have X0 : Stand p l e rm s m #[.ref a, msg] below meth c s₁ [] 0 0 := Stand.of_body Bd
  have e0 : s₁.heap = h := by rw [← hh, Bd.state]; rfl
  subst hh
  have hx := Bd.exec
  have hby : c.code = bytes := Bd.bytes
  have hown : s.vm.findClass tN = some m.cls := findClass_of_methodNamed Bd.named
  have haZ : Z.heap.size ≤ a := (hw a (by simp)).1
  obtain ⟨d0, d1, d4, d5, d6, d9, d10, d13, d16, d17, d20, d23, d24⟩ := H
  have w : ∀ d, d ∈ excAtoms rc → d ≠ .lays tN tN "suppressedExceptions" listD → d.before a0 Z = true := fun d h1 h2 => W d (thMem h1 h2)
  have wC := w (.lays rc tN "cause" thD) (by simp [excAtoms]) (by simp)
  have wS := w (.lays rc tN "stackTrace" steD) (by simp [excAtoms]) (by simp)
  have wP := w (.lays rc tN "suppressedExceptions" listD) (by simp [excAtoms]) (by simp [hrc])
  have wM := w (.lays rc tN "detailMessage" msgD) (by simp [excAtoms]) (by simp)
  have wB := w (.lays rc tN "backtrace" obD) (by simp [excAtoms]) (by simp)
  have wD := w (.lays rc tN "depth" "I") (by simp [excAtoms]) (by simp)
  have pC : parseFieldDescriptor thD = some (.object tN) := by decide +kernel
  have pS : parseFieldDescriptor steD = some (.array (.object "java/lang/StackTraceElement")) := by decide +kernel
  have pP : parseFieldDescriptor listD = some (.object "java/util/List") := by decide +kernel
  have pM : parseFieldDescriptor msgD = some (.object "java/lang/String") := by decide +kernel
  have pB : parseFieldDescriptor obD = some (.object "java/lang/Object") := by decide +kernel
  have pD : parseFieldDescriptor "I" = some .int := by decide +kernel
  obtain ⟨T1, X1, e1, st1⟩ := RoadKit.initO X0 hx hZ hown (w (.methodLink tN 1 oInit) (by simp [excAtoms, throwableAtoms]) (by simp)) (w (.instanceMethod oInit) (by simp [excAtoms, throwableAtoms]) (by simp)) (w (.code oInit ⟨#[0xb1]⟩ 1 none) (by simp [excAtoms, throwableAtoms]) (by simp)) e0 (g := mkF m 1 #[.val (.ref a), .val msg] [.ref a]) rfl hml.symm rfl (hb hby d1) (by omega) (W := 0) (Nat.le_of_eq rfl) (by omega)
  obtain ⟨T2, h2, X2, e2, W2, st2⟩ := RoadKit.putF X1 hx hZ (host := "") hown (Or.inl (w (.fieldLink tN 7 tN "cause" thD) (by simp [excAtoms, throwableAtoms, thD]) (by simp))) Via.refl e1 FC E (Or.inl wC) wi pC (v := .ref a) (narrowR rfl) (fits_refV_object _ ⟨.ref a, rfl⟩) (g := mkF m 6 #[.val (.ref a), .val msg] [.ref a, .ref a]) rfl rfl (hb hby d6)
  have E2 := Exa.wr W2 E
  have N2 := Unt.wr W2 N
  have FS2 := Fld.other W2 FS (Or.inr (slot_ne (Or.inl wS) (Or.inl wC) (by decide) pS pC))
  have FP2 := Fld.other W2 FP (Or.inr (slot_ne (Or.inl wP) (Or.inl wC) (by decide) pP pC))
  have FB2 := Fld.other W2 FB (Or.inr (slot_ne (Or.inl wB) (Or.inl wC) (by decide) pB pC))
  have FM2 := Fld.other W2 FM (Or.inr (slot_ne (Or.inl wM) (Or.inl wC) (by decide) pM pC))
  obtain ⟨T3, X3, e3, st3⟩ := RoadKit.getS X2 hx hZ (host := "") hown (w (.fieldLink tN 13 tN "UNASSIGNED_STACK" steD) (by simp [excAtoms, throwableAtoms]) (by simp)) Via.refl e2 (SU.ext (hO.wr W2 haZ).2) (g := mkF m 10 #[.val (.ref a), .val msg] [.ref a]) rfl (hb hby d10)
  obtain ⟨T4, h4, X4, e4, W4, st4⟩ := RoadKit.putF X3 hx hZ (host := "") hown (Or.inl (w (.fieldLink tN 17 tN "stackTrace" steD) (by simp [excAtoms, throwableAtoms]) (by simp))) Via.refl e3 FS2 E2 (Or.inl wS) wi pS (v := u) (narrowR hu) (fits_refV_array _ ⟨u, hu⟩) (g := mkF m 13 #[.val (.ref a), .val msg] [u, .ref a]) rfl rfl (hb hby d13)
  have E4 := Exa.wr W4 E2
  have N4 := Unt.wr W4 N2
  have FS4 := Fld.same W4 FS2
  have FP4 := Fld.other W4 FP2 (Or.inr (slot_ne (Or.inl wP) (Or.inl wS) (by decide) pP pS))
  have FB4 := Fld.other W4 FB2 (Or.inr (slot_ne (Or.inl wB) (Or.inl wS) (by decide) pB pS))
  have FM4 := Fld.other W4 FM2 (Or.inr (slot_ne (Or.inl wM) (Or.inl wS) (by decide) pM pS))
  obtain ⟨T5, X5, e5, st5⟩ := RoadKit.getS X4 hx hZ (host := "") hown (w (.fieldLink tN 20 tN "SUPPRESSED_SENTINEL" listD) (by simp [excAtoms, throwableAtoms]) (by simp)) Via.refl e4 (SS.ext ((hO.wr W2 haZ).wr W4 haZ).2) (g := mkF m 17 #[.val (.ref a), .val msg] [.ref a]) rfl (hb hby d17)
  obtain ⟨T6, h6, X6, e6, W6, st6⟩ := RoadKit.putF X5 hx hZ (host := "") hown (Or.inl (w (.fieldLink tN 24 tN "suppressedExceptions" listD) (by simp [excAtoms, throwableAtoms]) (by simp))) Via.refl e5 FP4 E4 (Or.inl wP) wi pP (v := sen) (narrowR hs) (fits_refV_object _ ⟨sen, hs⟩) (g := mkF m 20 #[.val (.ref a), .val msg] [sen, .ref a]) rfl rfl (hb hby d20)
  have E6 := Exa.wr W6 E4
  have N6 := Unt.wr W6 N4
  have FS6 := Fld.other W6 FS4 (Or.inr (slot_ne (Or.inl wS) (Or.inl wP) (by decide) pS pP))
  have FB6 := Fld.other W6 FB4 (Or.inr (slot_ne (Or.inl wB) (Or.inl wP) (by decide) pB pP))
  have FM6 := Fld.other W6 FM4 (Or.inr (slot_ne (Or.inl wM) (Or.inl wP) (by decide) pM pP))
  have O6 := ((hO.wr W2 haZ).wr W4 haZ).wr W6 haZ
  have come24 : Steps p.tables e below (s₁.setTop (mkF m 0 #[.val (.ref a), .val msg] [])) (T6.setTop (mkF m 24 #[.val (.ref a), .val msg] [.ref a])) := by
    refine XS.aloadN X0.here hx rfl (hb hby d0) rfl rfl ?_
    refine st1 _ ?_
    refine XS.aloadN X1.here hx rfl (hb hby d4) rfl rfl ?_
    refine XS.aloadN X1.here hx rfl (hb hby d5) rfl rfl ?_
    refine st2 _ ?_
    refine XS.aloadN X2.here hx rfl (hb hby d9) rfl rfl ?_
    refine st3 _ ?_
    refine st4 _ ?_
    refine XS.aloadN X4.here hx rfl (hb hby d16) rfl rfl ?_
    refine st5 _ ?_
    refine st6 _ ?_
    exact XS.aloadN X6.here hx rfl (hb hby d23) rfl rfl (Steps.refl _)
  have hT0 : ThS Z s.heap := ThS.start.ext hO.2
  have W' : ∀ d ∈ thWords rc, d.before #[.ref a, msg] s = true := fun d hd => mvX hT0 hZ (List.all_eq_true.mp exc_ok d (List.mem_filter.mp hd).1) (W d hd)
  have v : ∀ d, d ∈ excAtoms rc → d ≠ .lays tN tN "suppressedExceptions" listD → d.before #[.ref a, msg] s = true := fun d h1 h2 => W' d (thMem h1 h2)
  have hpl' : e.platform.magicAccessors = ({} : Platform).magicAccessors := by rw [X0.admits.platform]
  obtain ⟨T, L, tC, tF, tF0, tS, tU, nS, yS, -⟩ := thLinks hrc (pl := e.platform) (by rw [X0.admits.platform]) (by rw [X0.admits.platform]) hpl' W'
  have htr : e.platform.stackTraces = true := by rw [X0.admits.platform]; exact hst
  -- the receiver's cell
  obtain ⟨C6, c6, vm6, mon6⟩ := N6
  obtain ⟨C', kZ, c', fZ, kZ', stZ, szZ⟩ := id E6
  cases c'.symm.trans c6
  obtain ⟨tI, kI, gI, gI2, gI3, -, -, -⟩ := Cond.instantiable_spec wi
  cases fZ.symm.trans gI
  cases kZ'.symm.trans gI2
  have hfound : s.vm.findClass rc = some C6.cls := by rw [hZ.alike.findClass]; exact fZ
  obtain ⟨kX, hkX, heX⟩ := hZ.alike.2.2 _ _ kZ'
  have hordX : kX.kind = .ordinary := by rw [heX]; exact gI3
  have hszX : C6.slots.size = kX.instanceTypes.size := by rw [heX]; exact szZ gI3
  have tk : ∀ {f : Field} {v : Value} {C : Cell}, kX.instanceTypes[f.slot]? = some f.type → fits f.type v = true → C.cls = C6.cls → C.vm = .none → C.slots.size = C6.slots.size → Jvm.Takes s C f v := fun {f v C} h1 h2 h3 h4 h5 => by
    obtain ⟨q1, q2⟩ := Takes.of_laid (v := v) hkX hordX h1 h2
    exact ⟨by rw [h5, hszX]; simpa using q1, by rw [h3, h4]; exact q2⟩
  have vU := v (.selects rc tFill0 tFill0) (by simp [excAtoms]) (by simp)
  have hsel0 : selectMethod e.platform s.vm C6.cls T.fill0 = .method T.fill0 := by
    obtain ⟨c2, r2, m2, q1, q2, q3, q4, -⟩ := Cond.selects_spec vU
    cases Option.some.inj (q1.symm.trans hfound)
    cases Option.some.inj (q2.symm.trans (State.methodFound?_of_named tF0 (by decide)))
    cases Option.some.inj (q3.symm.trans tF0)
    rw [Launch.admits_selectMethod X0.admits]; exact q4
  -- the statics' cell
  obtain ⟨cfU, iU, kU, fU, stU, ceU, u1, u2, u3, u4, u5, u6, u7⟩ := id SU
  obtain ⟨kU', u1', u4', -⟩ := foundR (t := s) hZ.alike u1
  cases u1'.symm.trans tU
  cases Option.some.inj (((u4'.trans u4).symm.trans L.statics))
  have hcS6 : h6[T.aS]? = some ceU := O6.2.2 _ _ u5
  have hneS : T.aS ≠ a := fun q => absurd (Array.getElem?_eq_some_iff.mp u5).1 (by rw [q]; exact Nat.not_lt.mpr haZ)
  have hknS : ceU.vm ≠ .unknown := fun q => by rw [q] at u6; cases u6
  -- the fields
  obtain ⟨ci198, i198, fB, hk198, hg198, ha198, hsB, -, hnB, htB, hffB⟩ := Cond.ownField (t := .object "java/lang/Object") tC L.cls (by decide +kernel) (v (.fieldLink tN 198 tN "backtrace" obD) (by simp [excAtoms]) (by simp)) (v (.lays tN tN "backtrace" obD) (by simp [excAtoms]) (by simp)) e.platform hpl'
  obtain ⟨cD1, kD1, cD, kD, iD, fD, -, -, hffD, hstD, -, -, -, -⟩ := Cond.lays_spec (v (.lays rc tN "depth" "I") (by simp [excAtoms]) (by simp))
  cases Option.some.inj ((Cond.lays_declared (v (.lays rc tN "depth" "I") (by simp [excAtoms]) (by simp)) hffD).symm.trans tC)
  obtain ⟨hkD, hatD⟩ := State.fieldFound?_spec hffD
  cases Option.some.inj (hkD.symm.trans L.cls)
  obtain ⟨hnD, htD⟩ := State.fieldFound?_type hffD (t := .int) (by decide +kernel)
  have hfb := Cond.soleField_find tC L.cls (v (.soleField tN "backtrace") (by simp [excAtoms]) (by simp)) ha198 hnB hsB
  have hfd := Cond.soleField_find tC L.cls (v (.soleField tN "depth") (by simp [excAtoms]) (by simp)) hatD hnD hstD
  obtain ⟨comp, cO, kO, -, -, hkO, hkindO, hOb⟩ := Cond.arrayOver_spec (v (.arrayOver (.object "java/lang/Object")) (by simp [excAtoms]) (by simp))
  obtain ⟨C6m, cfM, kM, iM, fM, m1, m2, m3, m4, m5, m6, m7⟩ := id FM6
  cases m1.symm.trans c6
  obtain ⟨kM', m2', -, -⟩ := foundR (t := s) hZ.alike m2
  obtain ⟨nmM, -⟩ := State.fieldFound?_type m2' (t := .object "java/lang/String") (by decide +kernel)
  obtain ⟨tyS, dS, hdS, hdnS⟩ := Cond.laysAt hfound hkX tS (v (.lays rc tN "stackTrace" steD) (by simp [excAtoms]) (by simp))
  obtain ⟨tyM, dM, hdM, hdnM⟩ := Cond.laysAt hfound hkX m2' (v (.lays rc tN "detailMessage" msgD) (by simp [excAtoms]) (by simp))
  obtain ⟨tyB, dB, hdB, hdnB⟩ := Cond.laysAt hfound hkX hffB (v (.lays rc tN "backtrace" obD) (by simp [excAtoms]) (by simp))
  obtain ⟨tyD, dD, hdD, hdnD⟩ := Cond.laysAt hfound hkX hffD (v (.lays rc tN "depth" "I") (by simp [excAtoms]) (by simp))
  have mS := Cond.laysApart hdM hdS hdnM hdnS (by rw [nmM, nS]; decide)
  have mB := Cond.laysApart hdM hdB hdnM hdnB (by rw [nmM, hnB]; decide)
  have mD := Cond.laysApart hdM hdD hdnM hdnD (by rw [nmM, hnD]; decide)
  have cS6 : C6.slots[T.fStack.slot]? = some u := fldSlot hZ.alike FS6 tS c6
  have cB6 : C6.slots[fB.slot]? = some .null := fldSlot hZ.alike FB6 hffB c6
  have fS' : fits T.fStack.type u = true := by rw [yS]; exact fits_refV_array _ ⟨u, hu⟩
  have hSE := v (.selects rc tFill tFill) (by simp [excAtoms]) (by simp)
  have hcell6 : T6.heap[a]? = some C6 := by rw [e6]; exact c6
  have hcellS6 : T6.heap[T.aS]? = some ceU := by rw [e6]; exact hcS6
  obtain ⟨v7, vm7, ⟨T7, L7, c7, n7⟩, hW7, X7, ⟨hv7, C7, nn7, hn7, hD7, q1, q2, q3, q4, hL7, hc7, hn7'⟩, come27⟩ := X6.virtualBack hx (own := tN) (C := rc) (index := 27) (y := tFill) (z := tFill) hown (v (.methodLink tN 27 tFill) (by simp [excAtoms, throwableAtoms]) (by simp)) (v (.declares tFill) (by simp [excAtoms]) (by simp)) (notFace_of_selects hSE) hSE (v (.instanceMethod tFill) (by simp [excAtoms, throwableAtoms]) (by simp)) (by decide)
    (fillPaysAny (l := l) (W := 0) hx htr T L tF (u0 := ⟨u, hu⟩) (self := a) (cell := C6) (cellS := ceU) (fun _ => by rw [vm6]; simp) (by rw [vm6]; simp) (by rw [mon6]) (by rw [mon6]) cS6 hsel0 hneS hknS u7 (tk tyS fS' rfl vm6 rfl)
      ⟨{ ci198 := ci198, i198 := i198, fBack := fB }, ⟨hk198, hg198, ha198, hsB⟩, cB6⟩ hK.1 hK.2 tC hOb hkO hkindO hfb hfd
      (fun x => tk tyB (by rw [htB]; rfl) rfl vm6 rfl) (fun x => tk tyD (by rw [htD]; rfl) rfl vm6 rfl) (by omega) (by omega))
    (b := a) (cB := C6.cls) hfound ⟨C6, hcell6, rfl, by rw [vm6]; rfl⟩ (g := mkF m 24 #[.val (.ref a), .val msg] [.ref a]) rfl hml.symm come24 (argsL := []) (rest := [])
    (fun sig h => by rw [show parseMethodDescriptor tFill.desc = some ⟨[], some (.object tN)⟩ from by decide +kernel] at h; rw [← Option.some.inj h]; rfl) rfl (by show 2 * 0 + 0 ≤ 0; decide) (hb hby d24)
    (fun vmx hWx => ⟨rfl, by show 0 + 1 ≤ rm.cells; omega, by show 0 + 2752 ≤ rm.slots; omega, hcell6, hcellS6⟩)
  dsimp only [Pt.U, Pt.locs, Pt.cells, Pt.slots] at X7 hD7 hL7 hc7 hn7' come27
  subst hv7 hL7 hc7 hn7'
  have hbase : ∀ y ∈ ((([] ++ [(⟨a, RoadKit.slotOf Z tN "cause" thD⟩ : Loc)]) ++ [⟨a, RoadKit.slotOf Z tN "stackTrace" steD⟩]) ++ [⟨a, RoadKit.slotOf Z tN "suppressedExceptions" listD⟩]) ++ [⟨a, fB.slot⟩, ⟨a, fD.slot⟩, ⟨a, T.fStack.slot⟩], y.base = a := fun y hy => by
    simp only [List.mem_append, List.mem_cons, List.not_mem_nil, or_false, false_or] at hy
    rcases hy with (((rfl | rfl) | rfl) | rfl | rfl | rfl) <;> rfl
  have KP : Keep s.heap T7.heap [a] := keepAt X7 hbase
  have hS' : ∀ x ∈ [a], Safe Z EL s.vm s.heap x := hS
  have F7 : Fld Z T7.heap a tN "detailMessage" msgD .null := ⟨C7, cfM, kM, iM, fM, hD7, m2, m3, by rw [q2]; exact m4, by rw [q2]; exact m5, by rw [q1]; exact m6, (q4 _ mB mD mS).trans m7⟩
  obtain ⟨U, o, st, r⟩ := K27 T7.heap KP (E.keep KP) F7 p e s m _ below meth c s.vm s.heap.size T7 _ ⟨⟨Bd.exec, Bd.bytes, hml, Bd.returns, Bd.notSynchronized, (name_of_methodNamed Bd.named Bd.method).1, hK, hO.2⟩, X7.more (by omega) (by omega), rfl, ⟨(State.WarmedH.refl s).since _, KP.1⟩, hZ, hown, CHr.keep KP hS' hC, fun y hy => by rw [hbase y hy]; exact haZ, hO.keep KP (fun x hx => by simp at hx; rw [hx]; exact haZ), KP, fun x hx => ⟨(hw x hx).1, Nat.lt_of_lt_of_le (hw x hx).2 KP.1, Safe.keep KP hS' hC (hS x hx), Or.inl hx⟩⟩
  refine ⟨U, o, castTop (?_ : entryFrame m #[.ref a, msg] 2 = mkF m 0 #[.val (.ref a), .val msg] []) (come27.trans st), r⟩
  rcases ref_cases hmsg with rfl | ⟨b, rfl⟩ <;> rfl
end WK6

section Str
/-- what is known all along: the sheet's words, the literals' texts, compact strings are on -/
def G (Z : State) (a0 : Array Value) : Prop := (∀ d ∈ tables_1, d.before a0 Z = true) ∧ EW Z a0 EL ∧ (∃ z : Int32, Sta Z Z.heap "java/lang/String" "COMPACT_STRINGS" "Z" (.int z) ∧ ¬ z = 0) ∧ (∃ v : Value, Sta Z Z.heap "jdk/internal/util/Preconditions" "SIOOBE_FORMATTER" "Ljava/util/function/BiFunction;" v ∧ v.isRef = true) ∧ Sta Z Z.heap "java/lang/StringUTF16" "$assertionsDisabled" "Z" (.int 1) ∧ Sta Z Z.heap "java/lang/StringUTF16" "HI_BYTE_SHIFT" "I" (.int 0) ∧ Sta Z Z.heap "java/lang/StringUTF16" "LO_BYTE_SHIFT" "I" (.int 8)
theorem ofNat_lt {i j : Nat} (hi : i < 2 ^ 31) (hj : j < 2 ^ 31) : Int32.ofNat i < Int32.ofNat j ↔ i < j := by
  rw [Int32.lt_iff_toInt_lt, toInt_of (n := Int32.ofNat i) rfl hi, toInt_of (n := Int32.ofNat j) rfl hj]; omega
theorem ofNat_inj {i j : Nat} (hi : i < 2 ^ 31) (hj : j < 2 ^ 31) : Int32.ofNat i = Int32.ofNat j ↔ i = j := by
  constructor
  · intro q
    have := congrArg Int32.toInt q
    rw [toInt_of (n := Int32.ofNat i) rfl hi, toInt_of (n := Int32.ofNat j) rfl hj] at this; omega
  · intro q; rw [q]
theorem toI {i : Nat} (hi : i < 2 ^ 31) : (Int32.ofNat i).toInt = (i : Int) := toInt_of rfl hi
theorem inc1 (i : Nat) : Int32.ofNat i + Int32.ofInt 1 = Int32.ofNat (i + 1) := (inc_ofNat i).symm
def lo8 (c : Int32) : Int32 := c.toInt8.toInt32
theorem lo8_i (c : Int32) : (lo8 c).toInt = c.toInt.bmod 256 := by simp [lo8]
theorem nar_lo8 (c : Int32) : nar .byte (lo8 c) = lo8 c := by
  show (lo8 c).toInt8.toInt32 = lo8 c
  rw [← Int32.toInt_inj]
  show (lo8 (lo8 c)).toInt = _
  rw [lo8_i, lo8_i]; simp
def lat (cs : List Int32) : Prop := ∀ c ∈ cs, ¬ c < 0 ∧ ¬ 255 < c
theorem lo8_inj {c d : Int32} (hc : ¬ c < 0 ∧ ¬ 255 < c) (hd : ¬ d < 0 ∧ ¬ 255 < d) (q : lo8 c = lo8 d) : c = d := by
  have := congrArg Int32.toInt q
  rw [lo8_i, lo8_i] at this
  rw [← Int32.toInt_inj]
  simp only [Int32.lt_iff_toInt_lt, Int32.reduceToInt] at hc hd
  simp only [Int.bmod_def] at this
  omega
theorem lat_map_inj : ∀ {cs ds : List Int32}, lat cs → lat ds → cs.map lo8 = ds.map lo8 → cs = ds
  | [], [], _, _, _ => rfl
  | [], _ :: _, _, _, q => by simp at q
  | _ :: _, [], _, _, q => by simp at q
  | c :: cs, d :: ds, h1, h2, q => by
    simp only [List.map_cons, List.cons.injEq] at q
    rw [lo8_inj (h1 c (by simp)) (h2 d (by simp)) q.1, lat_map_inj (fun x hx => h1 x (by simp [hx])) (fun x hx => h2 x (by simp [hx])) q.2]
/-- the String at a is compact, its bytes (at b) those of these chars -/
def SL (Z : State) (h : Heap) (a b : Addr) (cs : List Int32) : Prop := Exa Z h a "java/lang/String" ∧ Fld Z h a "java/lang/String" "coder" "B" (.int 0) ∧ Fld Z h a "java/lang/String" "value" "[B" (.ref b) ∧ Ia Z h b .byte (cs.map lo8) ∧ lat cs
theorem SL.keep {Z : State} {h h' : Heap} {a b : Addr} {cs : List Int32} {ws : List Addr} (F : SL Z h a b cs) (K : Keep h h' ws) (qa : a ∉ ws) (qb : b ∉ ws) : SL Z h' a b cs := ⟨F.1.keep K, F.2.1.keep K qa, F.2.2.1.keep K qa, F.2.2.2.1.keep K qb, F.2.2.2.2⟩
theorem SL.lta {Z : State} {h : Heap} {a b : Addr} {cs : List Int32} (F : SL Z h a b cs) : h.size > a := F.1.lt
theorem SL.ltb {Z : State} {h : Heap} {a b : Addr} {cs : List Int32} (F : SL Z h a b cs) : h.size > b := F.2.2.2.1.lt
theorem SL.len {Z : State} {h : Heap} {a b : Addr} {cs : List Int32} (F : SL Z h a b cs) : cs.length < 2 ^ 31 := by have := F.2.2.2.1.len; simpa using this
theorem narB0 {z : Int32} (q : z = 0 ∨ z = 1) : narrow .boolean (.int z) = .int z := by rcases q with rfl | rfl <;> rfl

def hi8 (c : Int32) : Int32 := (c >>> ((8 : Int32) &&& 31)).toInt8.toInt32
def chs (cs : List Int32) : Prop := ∀ c ∈ cs, ¬ c < 0 ∧ ¬ 65535 < c
def u16 : List Int32 → List Int32
  | [] => []
  | c :: cs => lo8 c :: hi8 c :: u16 cs
theorem u16_len : ∀ cs : List Int32, (u16 cs).length = 2 * cs.length
  | [] => rfl
  | _ :: cs => by simp [u16, u16_len cs]; omega
theorem u16_at : ∀ (cs : List Int32) (i : Nat) (c : Int32), cs[i]? = some c → (u16 cs)[2 * i]? = some (lo8 c) ∧ (u16 cs)[2 * i + 1]? = some (hi8 c)
  | [], i, c, q => by simp at q
  | d :: cs, 0, c, q => by simp at q; simp [u16, q]
  | d :: cs, i + 1, c, q => by
    have := u16_at cs i c (by simpa using q)
    simpa [u16, show 2 * (i + 1) = 2 * i + 1 + 1 by omega] using this
theorem u16_ext {cs ys : List Int32} (hl : ys.length = 2 * cs.length) (hj : ∀ j, j < cs.length → ∃ c, cs[j]? = some c ∧ ys[2 * j]? = some (lo8 c) ∧ ys[2 * j + 1]? = some (hi8 c)) : ys = u16 cs := by
  refine List.ext_getElem? fun t => ?_
  rcases Nat.lt_or_ge t (2 * cs.length) with q | q
  · obtain ⟨c, c1, c2, c3⟩ := hj (t / 2) (by omega)
    have := u16_at cs (t / 2) c c1
    rcases Nat.mod_two_eq_zero_or_one t with r | r
    · rw [show t = 2 * (t / 2) by omega, c2, this.1]
    · rw [show t = 2 * (t / 2) + 1 by omega, c3, this.2]
  · rw [List.getElem?_eq_none (by omega), List.getElem?_eq_none (by rw [u16_len]; exact q)]
theorem shr0 (c : Int32) : c >>> ((0 : Int32) &&& 31) = c := by
  have h : (c >>> ((0 : Int32) &&& 31)).toInt = c.toInt / 1 := c_ishr c 0 0 (by decide)
  rw [← Int32.toInt_inj, h]; omega
theorem shl0 (c : Int32) : c <<< ((0 : Int32) &&& 31) = c := by
  have h : ((c <<< ((0 : Int32) &&& 31)).toInt - c.toInt * 1) % 4294967296 = 0 := c_ishl c 0 0 (by decide)
  have h1 := rng32 c
  have h2 := rng32 (c <<< ((0 : Int32) &&& 31))
  rw [← Int32.toInt_inj]; omega
theorem nn_of {i : Nat} (hi : i < 2 ^ 31) : ¬ Int32.ofNat i < 0 := by
  rw [Int32.lt_iff_toInt_lt, toI hi]; simp only [Int32.reduceToInt]; omega
theorem shl1 {i : Nat} (hi : 2 * i < 2 ^ 31) : Int32.ofNat i <<< ((1 : Int32) &&& 31) = Int32.ofNat (2 * i) := by
  have h : ((Int32.ofNat i <<< ((1 : Int32) &&& 31)).toInt - (Int32.ofNat i).toInt * 2) % 4294967296 = 0 := c_ishl (Int32.ofNat i) 1 1 (by decide)
  have h2 := rng32 (Int32.ofNat i <<< ((1 : Int32) &&& 31))
  rw [← Int32.toInt_inj, toI hi]; rw [toI (show i < 2 ^ 31 by omega)] at h; omega
theorem shr1 {i : Nat} (hi : 2 * i < 2 ^ 31) : Int32.ofNat (2 * i) >>> ((1 : Int32) &&& 31) = Int32.ofNat i := by
  have h : (Int32.ofNat (2 * i) >>> ((1 : Int32) &&& 31)).toInt = (Int32.ofNat (2 * i)).toInt / 2 := c_ishr _ 1 1 (by decide)
  rw [toI hi] at h
  rw [← Int32.toInt_inj, h, toI (show i < 2 ^ 31 by omega)]; omega
theorem hi8_i (c : Int32) : (hi8 c).toInt = (c.toInt / 256).bmod 256 := by
  have h := c_ishr c 8 8 (by decide)
  show (lo8 (c >>> ((8 : Int32) &&& 31))).toInt = _
  rw [lo8_i, h]; rfl
theorem nar_hi8 (c : Int32) : nar .byte (hi8 c) = hi8 c := nar_lo8 _
theorem i2c_ch {x : Int32} (q : ¬ x < 0 ∧ ¬ 65535 < x) : x.toUInt32.toUInt16.toUInt32.toInt32 = x := by
  have h := c_i2c x
  rw [← Int32.toInt_inj]
  simp only [Int32.lt_iff_toInt_lt, Int32.reduceToInt] at q
  omega
theorem nar_c {x : Int32} (q : ¬ x < 0 ∧ ¬ 65535 < x) : nar .char x = x := i2c_ch q
theorem lat_get {c : Int32} (q : ¬ c < 0 ∧ ¬ 255 < c) : (lo8 c &&& 255).toUInt32.toUInt16.toUInt32.toInt32 = c := by
  rw [i2c_mask]
  have h1 := c_mask (lo8 c) 255 8 (by decide) (by decide)
  rw [lo8_i] at h1
  rw [← Int32.toInt_inj, h1]
  simp only [Int32.lt_iff_toInt_lt, Int32.reduceToInt] at q
  simp only [Int.bmod_def]; omega
theorem u16_get {c : Int32} (q : ¬ c < 0 ∧ ¬ 65535 < c) : ((lo8 c &&& 255) ||| ((hi8 c &&& 255) <<< ((8 : Int32) &&& 31))).toUInt32.toUInt16.toUInt32.toInt32 = c := by
  have h1 := c_mask (lo8 c) 255 8 (by decide) (by decide)
  have h2 := c_mask (hi8 c) 255 8 (by decide) (by decide)
  rw [lo8_i] at h1
  rw [hi8_i] at h2
  have h3 := c_ishl (hi8 c &&& 255) 8 8 (by decide)
  have h4 := rng32 ((hi8 c &&& 255) <<< ((8 : Int32) &&& 31))
  simp only [Int32.lt_iff_toInt_lt, Int32.reduceToInt] at q
  simp only [Int.bmod_def] at h1 h2
  have h5 := c_or' (lo8 c &&& 255) ((hi8 c &&& 255) <<< ((8 : Int32) &&& 31)) 8 (by decide) 256 (by decide) (by omega) (by omega) (by omega)
  have h6 := rng32 ((lo8 c &&& 255) ||| ((hi8 c &&& 255) <<< ((8 : Int32) &&& 31)))
  have h7 := c_i2c ((lo8 c &&& 255) ||| ((hi8 c &&& 255) <<< ((8 : Int32) &&& 31)))
  rw [← Int32.toInt_inj]
  omega
/-- the String at a is UTF16 -/
def SU (Z : State) (h : Heap) (a b : Addr) (cs : List Int32) : Prop := Exa Z h a "java/lang/String" ∧ Fld Z h a "java/lang/String" "coder" "B" (.int 1) ∧ Fld Z h a "java/lang/String" "value" "[B" (.ref b) ∧ Ia Z h b .byte (u16 cs) ∧ chs cs ∧ ¬ lat cs
theorem SU.keep {Z : State} {h h' : Heap} {a b : Addr} {cs : List Int32} {ws : List Addr} (F : SU Z h a b cs) (K : Keep h h' ws) (qa : a ∉ ws) (qb : b ∉ ws) : SU Z h' a b cs := ⟨F.1.keep K, F.2.1.keep K qa, F.2.2.1.keep K qa, F.2.2.2.1.keep K qb, F.2.2.2.2⟩
/-- the String at a spells these chars -/
def St (Z : State) (h : Heap) (a b : Addr) (cs : List Int32) : Prop := SL Z h a b cs ∨ SU Z h a b cs
theorem St.keep {Z : State} {h h' : Heap} {a b : Addr} {cs : List Int32} {ws : List Addr} (F : St Z h a b cs) (K : Keep h h' ws) (qa : a ∉ ws) (qb : b ∉ ws) : St Z h' a b cs := F.imp (·.keep K qa qb) (·.keep K qa qb)
theorem St.exa {Z : State} {h : Heap} {a b : Addr} {cs : List Int32} (F : St Z h a b cs) : Exa Z h a "java/lang/String" := F.elim (·.1) (·.1)
theorem St.lta {Z : State} {h : Heap} {a b : Addr} {cs : List Int32} (F : St Z h a b cs) : h.size > a := F.exa.lt
theorem St.ltb {Z : State} {h : Heap} {a b : Addr} {cs : List Int32} (F : St Z h a b cs) : h.size > b := F.elim (·.2.2.2.1.lt) (·.2.2.2.1.lt)
theorem St.ch {Z : State} {h : Heap} {a b : Addr} {cs : List Int32} (F : St Z h a b cs) : chs cs := F.elim (fun q c hc => ⟨(q.2.2.2.2 c hc).1, by have := (q.2.2.2.2 c hc).2; simp only [Int32.lt_iff_toInt_lt, Int32.reduceToInt] at this ⊢; omega⟩) (·.2.2.2.2.1)
theorem St.len {Z : State} {h : Heap} {a b : Addr} {cs : List Int32} (F : St Z h a b cs) : cs.length < 2 ^ 31 := F.elim (·.len) (fun q => by have := q.2.2.2.1.len; rw [u16_len] at this; omega)
theorem lat_em (cs : List Int32) : lat cs ∨ ¬ lat cs := Classical.em _
end Str

section SBK
/-- a StringBuilder: its value array at v holds ys, coder co, n chars -/
def Sb (Z : State) (h : Heap) (a v : Addr) (co : Int32) (n : Nat) (ys : List Int32) : Prop := Exa Z h a "java/lang/StringBuilder" ∧ Fld Z h a "java/lang/AbstractStringBuilder" "value" "[B" (.ref v) ∧ Fld Z h a "java/lang/AbstractStringBuilder" "coder" "B" (.int co) ∧ Fld Z h a "java/lang/AbstractStringBuilder" "count" "I" (.int (Int32.ofNat n)) ∧ Fld Z h a "java/lang/AbstractStringBuilder" "maybeLatin1" "Z" (.int 0) ∧ Ia Z h v .byte ys
theorem Sb.keep {Z : State} {h h' : Heap} {a v : Addr} {co : Int32} {n : Nat} {ys : List Int32} {ws : List Addr} (F : Sb Z h a v co n ys) (K : Keep h h' ws) (qa : a ∉ ws) (qv : v ∉ ws) : Sb Z h' a v co n ys := ⟨F.1.keep K, F.2.1.keep K qa, F.2.2.1.keep K qa, F.2.2.2.1.keep K qa, F.2.2.2.2.1.keep K qa, F.2.2.2.2.2.keep K qv⟩
theorem Sb.lta {Z : State} {h : Heap} {a v : Addr} {co : Int32} {n : Nat} {ys : List Int32} (F : Sb Z h a v co n ys) : h.size > a := F.1.lt
theorem Sb.ltv {Z : State} {h : Heap} {a v : Addr} {co : Int32} {n : Nat} {ys : List Int32} (F : Sb Z h a v co n ys) : h.size > v := F.2.2.2.2.2.lt
/-- LATIN1, these chars -/
def SbL (Z : State) (h : Heap) (a v : Addr) (cs : List Int32) : Prop := ∃ ys, Sb Z h a v 0 cs.length ys ∧ ys.length = 16 ∧ cs.length ≤ 16 ∧ ys.take cs.length = cs.map lo8 ∧ lat cs ∧ Exa Z h v "[B"
/-- UTF16, these chars -/
def SbU (Z : State) (h : Heap) (a v : Addr) (cs : List Int32) : Prop := ∃ ys, Sb Z h a v 1 cs.length ys ∧ ys.length = 32 ∧ cs.length ≤ 16 ∧ ys.take (2 * cs.length) = u16 cs ∧ chs cs
theorem SbL.keep {Z : State} {h h' : Heap} {a v : Addr} {cs : List Int32} {ws : List Addr} (F : SbL Z h a v cs) (K : Keep h h' ws) (qa : a ∉ ws) (qv : v ∉ ws) : SbL Z h' a v cs := by obtain ⟨ys, S, r1, r2, r3, r4, X⟩ := F; exact ⟨ys, S.keep K qa qv, r1, r2, r3, r4, X.keep K⟩
theorem SbU.keep {Z : State} {h h' : Heap} {a v : Addr} {cs : List Int32} {ws : List Addr} (F : SbU Z h a v cs) (K : Keep h h' ws) (qa : a ∉ ws) (qv : v ∉ ws) : SbU Z h' a v cs := by obtain ⟨ys, S, r⟩ := F; exact ⟨ys, S.keep K qa qv, r⟩
theorem cp_take (ys xs r : List Int32) (dp n : Nat) (h1 : dp ≤ ys.length) (h2 : xs.length = n) : (ys.take dp ++ (xs.drop 0).take n ++ r).take (dp + n) = ys.take dp ++ xs := by
  subst h2
  rw [List.take_left' (by simp; omega)]; simp
theorem cp_len (ys xs : List Int32) (dp n : Nat) (h1 : dp + n ≤ ys.length) (h2 : xs.length = n) : (ys.take dp ++ (xs.drop 0).take n ++ ys.drop (dp + n)).length = ys.length := by
  subst h2; simp; omega
theorem set2_take (ys : List Int32) (j : Nat) (x y : Int32) (h : 2 * j + 1 < ys.length) : ((ys.set (2 * j) x).set (2 * j + 1) y).take (2 * (j + 1)) = ys.take (2 * j) ++ [x, y] := by
  refine List.ext_getElem? fun t => ?_
  rcases Nat.lt_or_ge t (2 * j) with q | q
  · rw [List.getElem?_take_of_lt (by omega), List.getElem?_set_ne (by omega), List.getElem?_set_ne (by omega), List.getElem?_append_left (by simp; omega), List.getElem?_take_of_lt q]
  · rw [List.getElem?_append_right (by simp; omega)]
    have hl : (ys.take (2 * j)).length = 2 * j := by simp; omega
    rw [hl]
    rcases Nat.lt_or_ge t (2 * j + 2) with r | r
    · rcases Nat.eq_or_lt_of_le q with e | e
      · subst e; rw [List.getElem?_take_of_lt (by omega), List.getElem?_set_ne (by omega), List.getElem?_set_self (by omega)]; simp
      · obtain rfl : t = 2 * j + 1 := by omega
        rw [List.getElem?_take_of_lt (by omega), List.getElem?_set_self (by simp; omega), show 2 * j + 1 - 2 * j = 1 by omega]; rfl
    · rw [List.getElem?_eq_none (by simp; omega), List.getElem?_eq_none (by simp; omega)]
theorem u16_app : ∀ (a b : List Int32), u16 (a ++ b) = u16 a ++ u16 b
  | [], b => rfl
  | c :: a, b => by simp [u16, u16_app a b]
theorem lat_and {c : Int32} (q : ¬ c < 0 ∧ ¬ 255 < c) : lo8 c &&& 255 = c := by
  have h1 := c_mask (lo8 c) 255 8 (by decide) (by decide)
  rw [lo8_i] at h1
  rw [← Int32.toInt_inj, h1]
  simp only [Int32.lt_iff_toInt_lt, Int32.reduceToInt] at q
  simp only [Int.bmod_def]; omega
theorem take_succ' {ds : List Int32} {i : Nat} {c : Int32} (hc : ds[i]? = some c) : ds.take (i + 1) = ds.take i ++ [c] := by rw [List.take_add_one, hc]; rfl
theorem add_of {i j : Nat} : Int32.ofNat i + Int32.ofNat j = Int32.ofNat (i + j) := by simp [Int32.ofNat_add]
theorem mapF (cs : List Int32) : ∀ (i : Nat) (c : Int32), cs[i]? = some c → (cs.map lo8)[i]? = some (lo8 c) := fun i c q => by rw [List.getElem?_map, q]; rfl
theorem shl0n (i : Nat) : Int32.ofNat i <<< ((0 : Int32) &&& 31) = Int32.ofNat i := shl0 _
theorem le_sub {m k : Nat} (hm : m ≤ k) (hk : k < 2 ^ 31) : ¬ 0 < Int32.ofNat m - Int32.ofNat k := by
  have h := c_isub (Int32.ofNat m) (Int32.ofNat k)
  have h2 := rng32 (Int32.ofNat m - Int32.ofNat k)
  rw [toI hk, toI (show m < 2 ^ 31 by omega)] at h
  rw [Int32.lt_iff_toInt_lt]; simp only [Int32.reduceToInt]; omega
theorem lat_chs {cs : List Int32} (q : lat cs) : chs cs := fun c hc => ⟨(q c hc).1, by have := (q c hc).2; simp only [Int32.lt_iff_toInt_lt, Int32.reduceToInt] at this ⊢; omega⟩
theorem lat_app {a b : List Int32} (p : lat a) (q : lat b) : lat (a ++ b) := fun c hc => (List.mem_append.mp hc).elim (p c) (q c)
theorem chs_app {a b : List Int32} (p : chs a) (q : chs b) : chs (a ++ b) := fun c hc => (List.mem_append.mp hc).elim (p c) (q c)
end SBK
theorem w0 {Z : State} {a0 : Array Value} (hw : ∀ d ∈ tables_1, d.before a0 Z = true) : (Jvm.Cond.constant "com/example/sieve_for_sparql/sieveforsparql/OptionsMissingPinLaw" (7 : Nat) (65535 : Int32)).before a0 Z = true := hw _ (List.mem_of_getElem? (i := 0) rfl)
theorem w1 {Z : State} {a0 : Array Value} (hw : ∀ d ∈ tables_1, d.before a0 Z = true) : (Jvm.Cond.classLink "com/example/sieve_for_sparql/sieveforsparql/OptionsMissingPinLaw" (8 : Nat) "java/lang/String").before a0 Z = true := hw _ (List.mem_of_getElem? (i := 1) rfl)
theorem w2 {Z : State} {a0 : Array Value} (hw : ∀ d ∈ tables_1, d.before a0 Z = true) : (Jvm.Cond.instantiable "java/lang/String" (4 : Nat)).before a0 Z = true := hw _ (List.mem_of_getElem? (i := 2) rfl)
theorem w3 {Z : State} {a0 : Array Value} (hw : ∀ d ∈ tables_1, d.before a0 Z = true) : (Jvm.Cond.initialized "java/lang/String").before a0 Z = true := hw _ (List.mem_of_getElem? (i := 3) rfl)
theorem w4 {Z : State} {a0 : Array Value} (hw : ∀ d ∈ tables_1, d.before a0 Z = true) : (Jvm.Cond.arrayClass Jvm.ClassFile.FieldType.char).before a0 Z = true := hw _ (List.mem_of_getElem? (i := 4) rfl)
theorem w5 {Z : State} {a0 : Array Value} (hw : ∀ d ∈ tables_1, d.before a0 Z = true) : (Jvm.Cond.methodLink "com/example/sieve_for_sparql/sieveforsparql/OptionsMissingPinLaw" (10 : Nat) ({ cls := "java/lang/String", name := "<init>", desc := "([C)V" } : Jvm.MethodName)).before a0 Z = true := hw _ (List.mem_of_getElem? (i := 5) rfl)
theorem w6 {Z : State} {a0 : Array Value} (hw : ∀ d ∈ tables_1, d.before a0 Z = true) : (Jvm.Cond.instanceMethod ({ cls := "java/lang/String", name := "<init>", desc := "([C)V" } : Jvm.MethodName)).before a0 Z = true := hw _ (List.mem_of_getElem? (i := 6) rfl)
theorem w7 {Z : State} {a0 : Array Value} (hw : ∀ d ∈ tables_1, d.before a0 Z = true) : (Jvm.Cond.code ({ cls := "java/lang/String", name := "<init>", desc := "([C)V" } : Jvm.MethodName) jdk_42_method_3_code (2 : Nat) (Option.none : Option Jvm.ClassFile.FieldType)).before a0 Z = true := hw _ (List.mem_of_getElem? (i := 7) rfl)
theorem w8 {Z : State} {a0 : Array Value} (hw : ∀ d ∈ tables_1, d.before a0 Z = true) : (Jvm.Cond.methodLink "java/lang/String" (27 : Nat) ({ cls := "java/lang/String", name := "<init>", desc := "([CIILjava/lang/Void;)V" } : Jvm.MethodName)).before a0 Z = true := hw _ (List.mem_of_getElem? (i := 8) rfl)
theorem w9 {Z : State} {a0 : Array Value} (hw : ∀ d ∈ tables_1, d.before a0 Z = true) : (Jvm.Cond.instanceMethod ({ cls := "java/lang/String", name := "<init>", desc := "([CIILjava/lang/Void;)V" } : Jvm.MethodName)).before a0 Z = true := hw _ (List.mem_of_getElem? (i := 9) rfl)
theorem w11 {Z : State} {a0 : Array Value} (hw : ∀ d ∈ tables_1, d.before a0 Z = true) : (Jvm.Cond.code ({ cls := "java/lang/String", name := "<init>", desc := "([CIILjava/lang/Void;)V" } : Jvm.MethodName) jdk_42_method_149_code (6 : Nat) (Option.none : Option Jvm.ClassFile.FieldType)).before a0 Z = true := hw _ (List.mem_of_getElem? (i := 11) rfl)
theorem w12 {Z : State} {a0 : Array Value} (hw : ∀ d ∈ tables_1, d.before a0 Z = true) : (Jvm.Cond.methodLink "java/lang/String" (1 : Nat) ({ cls := "java/lang/Object", name := "<init>", desc := "()V" } : Jvm.MethodName)).before a0 Z = true := hw _ (List.mem_of_getElem? (i := 12) rfl)
theorem w13 {Z : State} {a0 : Array Value} (hw : ∀ d ∈ tables_1, d.before a0 Z = true) : (Jvm.Cond.instanceMethod ({ cls := "java/lang/Object", name := "<init>", desc := "()V" } : Jvm.MethodName)).before a0 Z = true := hw _ (List.mem_of_getElem? (i := 13) rfl)
theorem w14 {Z : State} {a0 : Array Value} (hw : ∀ d ∈ tables_1, d.before a0 Z = true) : (Jvm.Cond.code ({ cls := "java/lang/Object", name := "<init>", desc := "()V" } : Jvm.MethodName) object_method_1_code (1 : Nat) (Option.none : Option Jvm.ClassFile.FieldType)).before a0 Z = true := hw _ (List.mem_of_getElem? (i := 14) rfl)
theorem w15 {Z : State} {a0 : Array Value} (hw : ∀ d ∈ tables_1, d.before a0 Z = true) : (Jvm.Cond.stringLink "java/lang/String" (7 : Nat) "").before a0 Z = true := hw _ (List.mem_of_getElem? (i := 15) rfl)
theorem w16 {Z : State} {a0 : Array Value} (hw : ∀ d ∈ tables_1, d.before a0 Z = true) : (Jvm.Cond.arrayClass Jvm.ClassFile.FieldType.byte).before a0 Z = true := hw _ (List.mem_of_getElem? (i := 16) rfl)
theorem w17 {Z : State} {a0 : Array Value} (hw : ∀ d ∈ tables_1, d.before a0 Z = true) : (Jvm.Cond.laysFinal "java/lang/String" "java/lang/String" "value" "[B").before a0 Z = true := hw _ (List.mem_of_getElem? (i := 17) rfl)
theorem w18 {Z : State} {a0 : Array Value} (hw : ∀ d ∈ tables_1, d.before a0 Z = true) : (Jvm.Cond.laysFinal "java/lang/String" "java/lang/String" "coder" "B").before a0 Z = true := hw _ (List.mem_of_getElem? (i := 18) rfl)
theorem w19 {Z : State} {a0 : Array Value} (hw : ∀ d ∈ tables_1, d.before a0 Z = true) : (Jvm.Cond.soleField "java/lang/String" "value").before a0 Z = true := hw _ (List.mem_of_getElem? (i := 19) rfl)
theorem w20 {Z : State} {a0 : Array Value} (hw : ∀ d ∈ tables_1, d.before a0 Z = true) : (Jvm.Cond.soleField "java/lang/String" "coder").before a0 Z = true := hw _ (List.mem_of_getElem? (i := 20) rfl)
theorem w21 {Z : State} {a0 : Array Value} (hw : ∀ d ∈ tables_1, d.before a0 Z = true) : (Jvm.Cond.fieldLink "java/lang/String" (9 : Nat) "java/lang/String" "value" "[B").before a0 Z = true := hw _ (List.mem_of_getElem? (i := 21) rfl)
theorem w22 {Z : State} {a0 : Array Value} (hw : ∀ d ∈ tables_1, d.before a0 Z = true) : (Jvm.Cond.fieldLink "java/lang/String" (15 : Nat) "java/lang/String" "coder" "B").before a0 Z = true := hw _ (List.mem_of_getElem? (i := 22) rfl)
theorem w23 {Z : State} {a0 : Array Value} (hw : ∀ d ∈ tables_1, d.before a0 Z = true) : (Jvm.Cond.methodLink "com/example/sieve_for_sparql/sieveforsparql/OptionsMissingPinLaw" (13 : Nat) ({ cls := "com/example/sieve_for_sparql/sieveforsparql/Options", name := "missing", desc := "(Ljava/lang/String;)Lcom/example/sieve_for_sparql/sieveforsparql/InputException;" } : Jvm.MethodName)).before a0 Z = true := hw _ (List.mem_of_getElem? (i := 23) rfl)
theorem w24 {Z : State} {a0 : Array Value} (hw : ∀ d ∈ tables_1, d.before a0 Z = true) : (Jvm.Cond.static ({ cls := "com/example/sieve_for_sparql/sieveforsparql/Options", name := "missing", desc := "(Ljava/lang/String;)Lcom/example/sieve_for_sparql/sieveforsparql/InputException;" } : Jvm.MethodName)).before a0 Z = true := hw _ (List.mem_of_getElem? (i := 24) rfl)
theorem w25 {Z : State} {a0 : Array Value} (hw : ∀ d ∈ tables_1, d.before a0 Z = true) : (Jvm.Cond.initialized "com/example/sieve_for_sparql/sieveforsparql/Options").before a0 Z = true := hw _ (List.mem_of_getElem? (i := 25) rfl)
theorem w26 {Z : State} {a0 : Array Value} (hw : ∀ d ∈ tables_1, d.before a0 Z = true) : (Jvm.Cond.code ({ cls := "com/example/sieve_for_sparql/sieveforsparql/Options", name := "missing", desc := "(Ljava/lang/String;)Lcom/example/sieve_for_sparql/sieveforsparql/InputException;" } : Jvm.MethodName) prog_4_method_10_code (1 : Nat) (Option.some (Jvm.ClassFile.FieldType.object "com/example/sieve_for_sparql/sieveforsparql/InputException"))).before a0 Z = true := hw _ (List.mem_of_getElem? (i := 26) rfl)
theorem w27 {Z : State} {a0 : Array Value} (hw : ∀ d ∈ tables_1, d.before a0 Z = true) : (Jvm.Cond.classLink "com/example/sieve_for_sparql/sieveforsparql/Options" (51 : Nat) "com/example/sieve_for_sparql/sieveforsparql/InputException").before a0 Z = true := hw _ (List.mem_of_getElem? (i := 27) rfl)
theorem w28 {Z : State} {a0 : Array Value} (hw : ∀ d ∈ tables_1, d.before a0 Z = true) : (Jvm.Cond.instantiable "com/example/sieve_for_sparql/sieveforsparql/InputException" (6 : Nat)).before a0 Z = true := hw _ (List.mem_of_getElem? (i := 28) rfl)
theorem w29 {Z : State} {a0 : Array Value} (hw : ∀ d ∈ tables_1, d.before a0 Z = true) : (Jvm.Cond.initialized "com/example/sieve_for_sparql/sieveforsparql/InputException").before a0 Z = true := hw _ (List.mem_of_getElem? (i := 29) rfl)
theorem w30 {Z : State} {a0 : Array Value} (hw : ∀ d ∈ tables_1, d.before a0 Z = true) : (Jvm.Cond.classLink "com/example/sieve_for_sparql/sieveforsparql/Options" (53 : Nat) "java/lang/StringBuilder").before a0 Z = true := hw _ (List.mem_of_getElem? (i := 30) rfl)
theorem w31 {Z : State} {a0 : Array Value} (hw : ∀ d ∈ tables_1, d.before a0 Z = true) : (Jvm.Cond.instantiable "java/lang/StringBuilder" (4 : Nat)).before a0 Z = true := hw _ (List.mem_of_getElem? (i := 31) rfl)
theorem w32 {Z : State} {a0 : Array Value} (hw : ∀ d ∈ tables_1, d.before a0 Z = true) : (Jvm.Cond.initialized "java/lang/StringBuilder").before a0 Z = true := hw _ (List.mem_of_getElem? (i := 32) rfl)
theorem w33 {Z : State} {a0 : Array Value} (hw : ∀ d ∈ tables_1, d.before a0 Z = true) : (Jvm.Cond.methodLink "com/example/sieve_for_sparql/sieveforsparql/Options" (55 : Nat) ({ cls := "java/lang/StringBuilder", name := "<init>", desc := "()V" } : Jvm.MethodName)).before a0 Z = true := hw _ (List.mem_of_getElem? (i := 33) rfl)
theorem w34 {Z : State} {a0 : Array Value} (hw : ∀ d ∈ tables_1, d.before a0 Z = true) : (Jvm.Cond.instanceMethod ({ cls := "java/lang/StringBuilder", name := "<init>", desc := "()V" } : Jvm.MethodName)).before a0 Z = true := hw _ (List.mem_of_getElem? (i := 34) rfl)
theorem w35 {Z : State} {a0 : Array Value} (hw : ∀ d ∈ tables_1, d.before a0 Z = true) : (Jvm.Cond.code ({ cls := "java/lang/StringBuilder", name := "<init>", desc := "()V" } : Jvm.MethodName) jdk_67_method_1_code (1 : Nat) (Option.none : Option Jvm.ClassFile.FieldType)).before a0 Z = true := hw _ (List.mem_of_getElem? (i := 35) rfl)
theorem w36 {Z : State} {a0 : Array Value} (hw : ∀ d ∈ tables_1, d.before a0 Z = true) : (Jvm.Cond.methodLink "java/lang/StringBuilder" (1 : Nat) ({ cls := "java/lang/AbstractStringBuilder", name := "<init>", desc := "(I)V" } : Jvm.MethodName)).before a0 Z = true := hw _ (List.mem_of_getElem? (i := 36) rfl)
theorem w37 {Z : State} {a0 : Array Value} (hw : ∀ d ∈ tables_1, d.before a0 Z = true) : (Jvm.Cond.instanceMethod ({ cls := "java/lang/AbstractStringBuilder", name := "<init>", desc := "(I)V" } : Jvm.MethodName)).before a0 Z = true := hw _ (List.mem_of_getElem? (i := 37) rfl)
theorem w40 {Z : State} {a0 : Array Value} (hw : ∀ d ∈ tables_1, d.before a0 Z = true) : (Jvm.Cond.initialized "java/lang/AbstractStringBuilder").before a0 Z = true := hw _ (List.mem_of_getElem? (i := 40) rfl)
theorem w41 {Z : State} {a0 : Array Value} (hw : ∀ d ∈ tables_1, d.before a0 Z = true) : (Jvm.Cond.code ({ cls := "java/lang/AbstractStringBuilder", name := "<init>", desc := "(I)V" } : Jvm.MethodName) jdk_68_method_2_code (2 : Nat) (Option.none : Option Jvm.ClassFile.FieldType)).before a0 Z = true := hw _ (List.mem_of_getElem? (i := 41) rfl)
theorem w42 {Z : State} {a0 : Array Value} (hw : ∀ d ∈ tables_1, d.before a0 Z = true) : (Jvm.Cond.methodLink "java/lang/AbstractStringBuilder" (3 : Nat) ({ cls := "java/lang/Object", name := "<init>", desc := "()V" } : Jvm.MethodName)).before a0 Z = true := hw _ (List.mem_of_getElem? (i := 42) rfl)
theorem w43 {Z : State} {a0 : Array Value} (hw : ∀ d ∈ tables_1, d.before a0 Z = true) : (Jvm.Cond.fieldLink "java/lang/AbstractStringBuilder" (18 : Nat) "java/lang/String" "COMPACT_STRINGS" "Z").before a0 Z = true := hw _ (List.mem_of_getElem? (i := 43) rfl)
theorem w44 {Z : State} {a0 : Array Value} (hw : ∀ d ∈ tables_1, d.before a0 Z = true) : (Jvm.Cond.fieldLink "java/lang/AbstractStringBuilder" (15 : Nat) "java/lang/AbstractStringBuilder" "value" "[B").before a0 Z = true := hw _ (List.mem_of_getElem? (i := 44) rfl)
theorem w45 {Z : State} {a0 : Array Value} (hw : ∀ d ∈ tables_1, d.before a0 Z = true) : (Jvm.Cond.lays "java/lang/StringBuilder" "java/lang/AbstractStringBuilder" "value" "[B").before a0 Z = true := hw _ (List.mem_of_getElem? (i := 45) rfl)
theorem w46 {Z : State} {a0 : Array Value} (hw : ∀ d ∈ tables_1, d.before a0 Z = true) : (Jvm.Cond.fieldLink "java/lang/AbstractStringBuilder" (22 : Nat) "java/lang/AbstractStringBuilder" "coder" "B").before a0 Z = true := hw _ (List.mem_of_getElem? (i := 46) rfl)
theorem w47 {Z : State} {a0 : Array Value} (hw : ∀ d ∈ tables_1, d.before a0 Z = true) : (Jvm.Cond.lays "java/lang/StringBuilder" "java/lang/AbstractStringBuilder" "coder" "B").before a0 Z = true := hw _ (List.mem_of_getElem? (i := 47) rfl)
theorem w48 {Z : State} {a0 : Array Value} (hw : ∀ d ∈ tables_1, d.before a0 Z = true) : (Jvm.Cond.methodLink "com/example/sieve_for_sparql/sieveforsparql/Options" (56 : Nat) ({ cls := "java/lang/StringBuilder", name := "append", desc := "(Ljava/lang/String;)Ljava/lang/StringBuilder;" } : Jvm.MethodName)).before a0 Z = true := hw _ (List.mem_of_getElem? (i := 48) rfl)
theorem w49 {Z : State} {a0 : Array Value} (hw : ∀ d ∈ tables_1, d.before a0 Z = true) : (Jvm.Cond.declares ({ cls := "java/lang/StringBuilder", name := "append", desc := "(Ljava/lang/String;)Ljava/lang/StringBuilder;" } : Jvm.MethodName)).before a0 Z = true := hw _ (List.mem_of_getElem? (i := 49) rfl)
theorem w50 {Z : State} {a0 : Array Value} (hw : ∀ d ∈ tables_1, d.before a0 Z = true) : (Jvm.Cond.instanceMethod ({ cls := "java/lang/StringBuilder", name := "append", desc := "(Ljava/lang/String;)Ljava/lang/StringBuilder;" } : Jvm.MethodName)).before a0 Z = true := hw _ (List.mem_of_getElem? (i := 50) rfl)
theorem w51 {Z : State} {a0 : Array Value} (hw : ∀ d ∈ tables_1, d.before a0 Z = true) : (Jvm.Cond.selects "java/lang/StringBuilder" ({ cls := "java/lang/StringBuilder", name := "append", desc := "(Ljava/lang/String;)Ljava/lang/StringBuilder;" } : Jvm.MethodName) ({ cls := "java/lang/StringBuilder", name := "append", desc := "(Ljava/lang/String;)Ljava/lang/StringBuilder;" } : Jvm.MethodName)).before a0 Z = true := hw _ (List.mem_of_getElem? (i := 51) rfl)
theorem w52 {Z : State} {a0 : Array Value} (hw : ∀ d ∈ tables_1, d.before a0 Z = true) : (Jvm.Cond.code ({ cls := "java/lang/StringBuilder", name := "append", desc := "(Ljava/lang/String;)Ljava/lang/StringBuilder;" } : Jvm.MethodName) jdk_67_method_7_code (2 : Nat) (Option.some (Jvm.ClassFile.FieldType.object "java/lang/StringBuilder"))).before a0 Z = true := hw _ (List.mem_of_getElem? (i := 52) rfl)
theorem w53 {Z : State} {a0 : Array Value} (hw : ∀ d ∈ tables_1, d.before a0 Z = true) : (Jvm.Cond.methodLink "java/lang/StringBuilder" (29 : Nat) ({ cls := "java/lang/AbstractStringBuilder", name := "append", desc := "(Ljava/lang/String;)Ljava/lang/AbstractStringBuilder;" } : Jvm.MethodName)).before a0 Z = true := hw _ (List.mem_of_getElem? (i := 53) rfl)
theorem w54 {Z : State} {a0 : Array Value} (hw : ∀ d ∈ tables_1, d.before a0 Z = true) : (Jvm.Cond.instanceMethod ({ cls := "java/lang/AbstractStringBuilder", name := "append", desc := "(Ljava/lang/String;)Ljava/lang/AbstractStringBuilder;" } : Jvm.MethodName)).before a0 Z = true := hw _ (List.mem_of_getElem? (i := 54) rfl)
theorem w55 {Z : State} {a0 : Array Value} (hw : ∀ d ∈ tables_1, d.before a0 Z = true) : (Jvm.Cond.superclass "java/lang/StringBuilder" "java/lang/AbstractStringBuilder").before a0 Z = true := hw _ (List.mem_of_getElem? (i := 55) rfl)
theorem w57 {Z : State} {a0 : Array Value} (hw : ∀ d ∈ tables_1, d.before a0 Z = true) : (Jvm.Cond.code ({ cls := "java/lang/AbstractStringBuilder", name := "append", desc := "(Ljava/lang/String;)Ljava/lang/AbstractStringBuilder;" } : Jvm.MethodName) jdk_68_method_22_code (3 : Nat) (Option.some (Jvm.ClassFile.FieldType.object "java/lang/AbstractStringBuilder"))).before a0 Z = true := hw _ (List.mem_of_getElem? (i := 57) rfl)
theorem w58 {Z : State} {a0 : Array Value} (hw : ∀ d ∈ tables_1, d.before a0 Z = true) : (Jvm.Cond.methodLink "java/lang/AbstractStringBuilder" (32 : Nat) ({ cls := "java/lang/String", name := "length", desc := "()I" } : Jvm.MethodName)).before a0 Z = true := hw _ (List.mem_of_getElem? (i := 58) rfl)
theorem w59 {Z : State} {a0 : Array Value} (hw : ∀ d ∈ tables_1, d.before a0 Z = true) : (Jvm.Cond.declares ({ cls := "java/lang/String", name := "length", desc := "()I" } : Jvm.MethodName)).before a0 Z = true := hw _ (List.mem_of_getElem? (i := 59) rfl)
theorem w60 {Z : State} {a0 : Array Value} (hw : ∀ d ∈ tables_1, d.before a0 Z = true) : (Jvm.Cond.instanceMethod ({ cls := "java/lang/String", name := "length", desc := "()I" } : Jvm.MethodName)).before a0 Z = true := hw _ (List.mem_of_getElem? (i := 60) rfl)
theorem w61 {Z : State} {a0 : Array Value} (hw : ∀ d ∈ tables_1, d.before a0 Z = true) : (Jvm.Cond.selects "java/lang/String" ({ cls := "java/lang/String", name := "length", desc := "()I" } : Jvm.MethodName) ({ cls := "java/lang/String", name := "length", desc := "()I" } : Jvm.MethodName)).before a0 Z = true := hw _ (List.mem_of_getElem? (i := 61) rfl)
theorem w62 {Z : State} {a0 : Array Value} (hw : ∀ d ∈ tables_1, d.before a0 Z = true) : (Jvm.Cond.code ({ cls := "java/lang/String", name := "length", desc := "()I" } : Jvm.MethodName) jdk_42_method_54_code (1 : Nat) (Option.some Jvm.ClassFile.FieldType.int)).before a0 Z = true := hw _ (List.mem_of_getElem? (i := 62) rfl)
theorem w63 {Z : State} {a0 : Array Value} (hw : ∀ d ∈ tables_1, d.before a0 Z = true) : (Jvm.Cond.methodLink "java/lang/String" (335 : Nat) ({ cls := "java/lang/String", name := "coder", desc := "()B" } : Jvm.MethodName)).before a0 Z = true := hw _ (List.mem_of_getElem? (i := 63) rfl)
theorem w64 {Z : State} {a0 : Array Value} (hw : ∀ d ∈ tables_1, d.before a0 Z = true) : (Jvm.Cond.declares ({ cls := "java/lang/String", name := "coder", desc := "()B" } : Jvm.MethodName)).before a0 Z = true := hw _ (List.mem_of_getElem? (i := 64) rfl)
theorem w65 {Z : State} {a0 : Array Value} (hw : ∀ d ∈ tables_1, d.before a0 Z = true) : (Jvm.Cond.instanceMethod ({ cls := "java/lang/String", name := "coder", desc := "()B" } : Jvm.MethodName)).before a0 Z = true := hw _ (List.mem_of_getElem? (i := 65) rfl)
theorem w66 {Z : State} {a0 : Array Value} (hw : ∀ d ∈ tables_1, d.before a0 Z = true) : (Jvm.Cond.selects "java/lang/String" ({ cls := "java/lang/String", name := "coder", desc := "()B" } : Jvm.MethodName) ({ cls := "java/lang/String", name := "coder", desc := "()B" } : Jvm.MethodName)).before a0 Z = true := hw _ (List.mem_of_getElem? (i := 66) rfl)
theorem w67 {Z : State} {a0 : Array Value} (hw : ∀ d ∈ tables_1, d.before a0 Z = true) : (Jvm.Cond.code ({ cls := "java/lang/String", name := "coder", desc := "()B" } : Jvm.MethodName) jdk_42_method_152_code (1 : Nat) (Option.some Jvm.ClassFile.FieldType.byte)).before a0 Z = true := hw _ (List.mem_of_getElem? (i := 67) rfl)
theorem w68 {Z : State} {a0 : Array Value} (hw : ∀ d ∈ tables_1, d.before a0 Z = true) : (Jvm.Cond.fieldLink "java/lang/String" (38 : Nat) "java/lang/String" "COMPACT_STRINGS" "Z").before a0 Z = true := hw _ (List.mem_of_getElem? (i := 68) rfl)
theorem w69 {Z : State} {a0 : Array Value} (hw : ∀ d ∈ tables_1, d.before a0 Z = true) : (Jvm.Cond.fieldLink "java/lang/AbstractStringBuilder" (79 : Nat) "java/lang/AbstractStringBuilder" "count" "I").before a0 Z = true := hw _ (List.mem_of_getElem? (i := 69) rfl)
theorem w70 {Z : State} {a0 : Array Value} (hw : ∀ d ∈ tables_1, d.before a0 Z = true) : (Jvm.Cond.lays "java/lang/StringBuilder" "java/lang/AbstractStringBuilder" "count" "I").before a0 Z = true := hw _ (List.mem_of_getElem? (i := 70) rfl)
theorem w71 {Z : State} {a0 : Array Value} (hw : ∀ d ∈ tables_1, d.before a0 Z = true) : (Jvm.Cond.methodLink "java/lang/AbstractStringBuilder" (100 : Nat) ({ cls := "java/lang/AbstractStringBuilder", name := "ensureCapacityInternal", desc := "(I)V" } : Jvm.MethodName)).before a0 Z = true := hw _ (List.mem_of_getElem? (i := 71) rfl)
theorem w72 {Z : State} {a0 : Array Value} (hw : ∀ d ∈ tables_1, d.before a0 Z = true) : (Jvm.Cond.instanceMethod ({ cls := "java/lang/AbstractStringBuilder", name := "ensureCapacityInternal", desc := "(I)V" } : Jvm.MethodName)).before a0 Z = true := hw _ (List.mem_of_getElem? (i := 72) rfl)
theorem w74 {Z : State} {a0 : Array Value} (hw : ∀ d ∈ tables_1, d.before a0 Z = true) : (Jvm.Cond.selects "java/lang/StringBuilder" ({ cls := "java/lang/AbstractStringBuilder", name := "ensureCapacityInternal", desc := "(I)V" } : Jvm.MethodName) ({ cls := "java/lang/AbstractStringBuilder", name := "ensureCapacityInternal", desc := "(I)V" } : Jvm.MethodName)).before a0 Z = true := hw _ (List.mem_of_getElem? (i := 74) rfl)
theorem w75 {Z : State} {a0 : Array Value} (hw : ∀ d ∈ tables_1, d.before a0 Z = true) : (Jvm.Cond.code ({ cls := "java/lang/AbstractStringBuilder", name := "ensureCapacityInternal", desc := "(I)V" } : Jvm.MethodName) jdk_68_method_9_code (3 : Nat) (Option.none : Option Jvm.ClassFile.FieldType)).before a0 Z = true := hw _ (List.mem_of_getElem? (i := 75) rfl)
theorem w76 {Z : State} {a0 : Array Value} (hw : ∀ d ∈ tables_1, d.before a0 Z = true) : (Jvm.Cond.methodLink "java/lang/AbstractStringBuilder" (208 : Nat) ({ cls := "java/lang/AbstractStringBuilder", name := "putStringAt", desc := "(ILjava/lang/String;)V" } : Jvm.MethodName)).before a0 Z = true := hw _ (List.mem_of_getElem? (i := 76) rfl)
theorem w77 {Z : State} {a0 : Array Value} (hw : ∀ d ∈ tables_1, d.before a0 Z = true) : (Jvm.Cond.instanceMethod ({ cls := "java/lang/AbstractStringBuilder", name := "putStringAt", desc := "(ILjava/lang/String;)V" } : Jvm.MethodName)).before a0 Z = true := hw _ (List.mem_of_getElem? (i := 77) rfl)
theorem w79 {Z : State} {a0 : Array Value} (hw : ∀ d ∈ tables_1, d.before a0 Z = true) : (Jvm.Cond.selects "java/lang/StringBuilder" ({ cls := "java/lang/AbstractStringBuilder", name := "putStringAt", desc := "(ILjava/lang/String;)V" } : Jvm.MethodName) ({ cls := "java/lang/AbstractStringBuilder", name := "putStringAt", desc := "(ILjava/lang/String;)V" } : Jvm.MethodName)).before a0 Z = true := hw _ (List.mem_of_getElem? (i := 79) rfl)
theorem w80 {Z : State} {a0 : Array Value} (hw : ∀ d ∈ tables_1, d.before a0 Z = true) : (Jvm.Cond.code ({ cls := "java/lang/AbstractStringBuilder", name := "putStringAt", desc := "(ILjava/lang/String;)V" } : Jvm.MethodName) jdk_68_method_73_code (3 : Nat) (Option.none : Option Jvm.ClassFile.FieldType)).before a0 Z = true := hw _ (List.mem_of_getElem? (i := 80) rfl)
theorem w81 {Z : State} {a0 : Array Value} (hw : ∀ d ∈ tables_1, d.before a0 Z = true) : (Jvm.Cond.methodLink "java/lang/AbstractStringBuilder" (397 : Nat) ({ cls := "java/lang/AbstractStringBuilder", name := "inflateIfNeededFor", desc := "(Ljava/lang/String;)V" } : Jvm.MethodName)).before a0 Z = true := hw _ (List.mem_of_getElem? (i := 81) rfl)
theorem w82 {Z : State} {a0 : Array Value} (hw : ∀ d ∈ tables_1, d.before a0 Z = true) : (Jvm.Cond.instanceMethod ({ cls := "java/lang/AbstractStringBuilder", name := "inflateIfNeededFor", desc := "(Ljava/lang/String;)V" } : Jvm.MethodName)).before a0 Z = true := hw _ (List.mem_of_getElem? (i := 82) rfl)
theorem w84 {Z : State} {a0 : Array Value} (hw : ∀ d ∈ tables_1, d.before a0 Z = true) : (Jvm.Cond.selects "java/lang/StringBuilder" ({ cls := "java/lang/AbstractStringBuilder", name := "inflateIfNeededFor", desc := "(Ljava/lang/String;)V" } : Jvm.MethodName) ({ cls := "java/lang/AbstractStringBuilder", name := "inflateIfNeededFor", desc := "(Ljava/lang/String;)V" } : Jvm.MethodName)).before a0 Z = true := hw _ (List.mem_of_getElem? (i := 84) rfl)
theorem w85 {Z : State} {a0 : Array Value} (hw : ∀ d ∈ tables_1, d.before a0 Z = true) : (Jvm.Cond.code ({ cls := "java/lang/AbstractStringBuilder", name := "inflateIfNeededFor", desc := "(Ljava/lang/String;)V" } : Jvm.MethodName) jdk_68_method_71_code (2 : Nat) (Option.none : Option Jvm.ClassFile.FieldType)).before a0 Z = true := hw _ (List.mem_of_getElem? (i := 85) rfl)
theorem w86 {Z : State} {a0 : Array Value} (hw : ∀ d ∈ tables_1, d.before a0 Z = true) : (Jvm.Cond.methodLink "java/lang/AbstractStringBuilder" (40 : Nat) ({ cls := "java/lang/String", name := "coder", desc := "()B" } : Jvm.MethodName)).before a0 Z = true := hw _ (List.mem_of_getElem? (i := 86) rfl)
theorem w87 {Z : State} {a0 : Array Value} (hw : ∀ d ∈ tables_1, d.before a0 Z = true) : (Jvm.Cond.methodLink "java/lang/AbstractStringBuilder" (399 : Nat) ({ cls := "java/lang/String", name := "getBytes", desc := "([BIB)V" } : Jvm.MethodName)).before a0 Z = true := hw _ (List.mem_of_getElem? (i := 87) rfl)
theorem w88 {Z : State} {a0 : Array Value} (hw : ∀ d ∈ tables_1, d.before a0 Z = true) : (Jvm.Cond.declares ({ cls := "java/lang/String", name := "getBytes", desc := "([BIB)V" } : Jvm.MethodName)).before a0 Z = true := hw _ (List.mem_of_getElem? (i := 88) rfl)
theorem w89 {Z : State} {a0 : Array Value} (hw : ∀ d ∈ tables_1, d.before a0 Z = true) : (Jvm.Cond.instanceMethod ({ cls := "java/lang/String", name := "getBytes", desc := "([BIB)V" } : Jvm.MethodName)).before a0 Z = true := hw _ (List.mem_of_getElem? (i := 89) rfl)
theorem w90 {Z : State} {a0 : Array Value} (hw : ∀ d ∈ tables_1, d.before a0 Z = true) : (Jvm.Cond.selects "java/lang/String" ({ cls := "java/lang/String", name := "getBytes", desc := "([BIB)V" } : Jvm.MethodName) ({ cls := "java/lang/String", name := "getBytes", desc := "([BIB)V" } : Jvm.MethodName)).before a0 Z = true := hw _ (List.mem_of_getElem? (i := 90) rfl)
theorem w91 {Z : State} {a0 : Array Value} (hw : ∀ d ∈ tables_1, d.before a0 Z = true) : (Jvm.Cond.code ({ cls := "java/lang/String", name := "getBytes", desc := "([BIB)V" } : Jvm.MethodName) jdk_42_method_147_code (4 : Nat) (Option.none : Option Jvm.ClassFile.FieldType)).before a0 Z = true := hw _ (List.mem_of_getElem? (i := 91) rfl)
theorem w92 {Z : State} {a0 : Array Value} (hw : ∀ d ∈ tables_1, d.before a0 Z = true) : (Jvm.Cond.methodLink "java/lang/String" (212 : Nat) ({ cls := "java/lang/System", name := "arraycopy", desc := "(Ljava/lang/Object;ILjava/lang/Object;II)V" } : Jvm.MethodName)).before a0 Z = true := hw _ (List.mem_of_getElem? (i := 92) rfl)
theorem w93 {Z : State} {a0 : Array Value} (hw : ∀ d ∈ tables_1, d.before a0 Z = true) : (Jvm.Cond.static ({ cls := "java/lang/System", name := "arraycopy", desc := "(Ljava/lang/Object;ILjava/lang/Object;II)V" } : Jvm.MethodName)).before a0 Z = true := hw _ (List.mem_of_getElem? (i := 93) rfl)
theorem w94 {Z : State} {a0 : Array Value} (hw : ∀ d ∈ tables_1, d.before a0 Z = true) : (Jvm.Cond.initialized "java/lang/System").before a0 Z = true := hw _ (List.mem_of_getElem? (i := 94) rfl)
theorem w95 {Z : State} {a0 : Array Value} (hw : ∀ d ∈ tables_1, d.before a0 Z = true) : (Jvm.Cond.native ({ cls := "java/lang/System", name := "arraycopy", desc := "(Ljava/lang/Object;ILjava/lang/Object;II)V" } : Jvm.MethodName)).before a0 Z = true := hw _ (List.mem_of_getElem? (i := 95) rfl)
theorem w96 {Z : State} {a0 : Array Value} (hw : ∀ d ∈ tables_1, d.before a0 Z = true) : (Jvm.Cond.stringLink "com/example/sieve_for_sparql/sieveforsparql/Options" (188 : Nat) " is required").before a0 Z = true := hw _ (List.mem_of_getElem? (i := 96) rfl)
theorem w97 {Z : State} {a0 : Array Value} (hw : ∀ d ∈ tables_1, d.before a0 Z = true) : (Jvm.Cond.methodLink "com/example/sieve_for_sparql/sieveforsparql/Options" (62 : Nat) ({ cls := "java/lang/StringBuilder", name := "toString", desc := "()Ljava/lang/String;" } : Jvm.MethodName)).before a0 Z = true := hw _ (List.mem_of_getElem? (i := 97) rfl)
theorem w98 {Z : State} {a0 : Array Value} (hw : ∀ d ∈ tables_1, d.before a0 Z = true) : (Jvm.Cond.declares ({ cls := "java/lang/StringBuilder", name := "toString", desc := "()Ljava/lang/String;" } : Jvm.MethodName)).before a0 Z = true := hw _ (List.mem_of_getElem? (i := 98) rfl)
theorem w99 {Z : State} {a0 : Array Value} (hw : ∀ d ∈ tables_1, d.before a0 Z = true) : (Jvm.Cond.instanceMethod ({ cls := "java/lang/StringBuilder", name := "toString", desc := "()Ljava/lang/String;" } : Jvm.MethodName)).before a0 Z = true := hw _ (List.mem_of_getElem? (i := 99) rfl)
theorem w100 {Z : State} {a0 : Array Value} (hw : ∀ d ∈ tables_1, d.before a0 Z = true) : (Jvm.Cond.selects "java/lang/StringBuilder" ({ cls := "java/lang/StringBuilder", name := "toString", desc := "()Ljava/lang/String;" } : Jvm.MethodName) ({ cls := "java/lang/StringBuilder", name := "toString", desc := "()Ljava/lang/String;" } : Jvm.MethodName)).before a0 Z = true := hw _ (List.mem_of_getElem? (i := 100) rfl)
theorem w101 {Z : State} {a0 : Array Value} (hw : ∀ d ∈ tables_1, d.before a0 Z = true) : (Jvm.Cond.code ({ cls := "java/lang/StringBuilder", name := "toString", desc := "()Ljava/lang/String;" } : Jvm.MethodName) jdk_67_method_42_code (1 : Nat) (Option.some (Jvm.ClassFile.FieldType.object "java/lang/String"))).before a0 Z = true := hw _ (List.mem_of_getElem? (i := 101) rfl)
theorem w102 {Z : State} {a0 : Array Value} (hw : ∀ d ∈ tables_1, d.before a0 Z = true) : (Jvm.Cond.classLink "java/lang/StringBuilder" (18 : Nat) "java/lang/String").before a0 Z = true := hw _ (List.mem_of_getElem? (i := 102) rfl)
theorem w103 {Z : State} {a0 : Array Value} (hw : ∀ d ∈ tables_1, d.before a0 Z = true) : (Jvm.Cond.methodLink "java/lang/StringBuilder" (137 : Nat) ({ cls := "java/lang/String", name := "<init>", desc := "(Ljava/lang/StringBuilder;)V" } : Jvm.MethodName)).before a0 Z = true := hw _ (List.mem_of_getElem? (i := 103) rfl)
theorem w104 {Z : State} {a0 : Array Value} (hw : ∀ d ∈ tables_1, d.before a0 Z = true) : (Jvm.Cond.instanceMethod ({ cls := "java/lang/String", name := "<init>", desc := "(Ljava/lang/StringBuilder;)V" } : Jvm.MethodName)).before a0 Z = true := hw _ (List.mem_of_getElem? (i := 104) rfl)
theorem w105 {Z : State} {a0 : Array Value} (hw : ∀ d ∈ tables_1, d.before a0 Z = true) : (Jvm.Cond.code ({ cls := "java/lang/String", name := "<init>", desc := "(Ljava/lang/StringBuilder;)V" } : Jvm.MethodName) jdk_42_method_53_code (2 : Nat) (Option.none : Option Jvm.ClassFile.FieldType)).before a0 Z = true := hw _ (List.mem_of_getElem? (i := 105) rfl)
theorem w106 {Z : State} {a0 : Array Value} (hw : ∀ d ∈ tables_1, d.before a0 Z = true) : (Jvm.Cond.methodLink "java/lang/String" (489 : Nat) ({ cls := "java/lang/String", name := "<init>", desc := "(Ljava/lang/AbstractStringBuilder;Ljava/lang/Void;)V" } : Jvm.MethodName)).before a0 Z = true := hw _ (List.mem_of_getElem? (i := 106) rfl)
theorem w107 {Z : State} {a0 : Array Value} (hw : ∀ d ∈ tables_1, d.before a0 Z = true) : (Jvm.Cond.instanceMethod ({ cls := "java/lang/String", name := "<init>", desc := "(Ljava/lang/AbstractStringBuilder;Ljava/lang/Void;)V" } : Jvm.MethodName)).before a0 Z = true := hw _ (List.mem_of_getElem? (i := 107) rfl)
theorem w108 {Z : State} {a0 : Array Value} (hw : ∀ d ∈ tables_1, d.before a0 Z = true) : (Jvm.Cond.code ({ cls := "java/lang/String", name := "<init>", desc := "(Ljava/lang/AbstractStringBuilder;Ljava/lang/Void;)V" } : Jvm.MethodName) jdk_42_method_150_code (5 : Nat) (Option.none : Option Jvm.ClassFile.FieldType)).before a0 Z = true := hw _ (List.mem_of_getElem? (i := 108) rfl)
theorem w109 {Z : State} {a0 : Array Value} (hw : ∀ d ∈ tables_1, d.before a0 Z = true) : (Jvm.Cond.methodLink "java/lang/String" (552 : Nat) ({ cls := "java/lang/AbstractStringBuilder", name := "getValue", desc := "()[B" } : Jvm.MethodName)).before a0 Z = true := hw _ (List.mem_of_getElem? (i := 109) rfl)
theorem w110 {Z : State} {a0 : Array Value} (hw : ∀ d ∈ tables_1, d.before a0 Z = true) : (Jvm.Cond.declares ({ cls := "java/lang/AbstractStringBuilder", name := "getValue", desc := "()[B" } : Jvm.MethodName)).before a0 Z = true := hw _ (List.mem_of_getElem? (i := 110) rfl)
theorem w111 {Z : State} {a0 : Array Value} (hw : ∀ d ∈ tables_1, d.before a0 Z = true) : (Jvm.Cond.instanceMethod ({ cls := "java/lang/AbstractStringBuilder", name := "getValue", desc := "()[B" } : Jvm.MethodName)).before a0 Z = true := hw _ (List.mem_of_getElem? (i := 111) rfl)
theorem w112 {Z : State} {a0 : Array Value} (hw : ∀ d ∈ tables_1, d.before a0 Z = true) : (Jvm.Cond.selects "java/lang/StringBuilder" ({ cls := "java/lang/AbstractStringBuilder", name := "getValue", desc := "()[B" } : Jvm.MethodName) ({ cls := "java/lang/AbstractStringBuilder", name := "getValue", desc := "()[B" } : Jvm.MethodName)).before a0 Z = true := hw _ (List.mem_of_getElem? (i := 112) rfl)
theorem w113 {Z : State} {a0 : Array Value} (hw : ∀ d ∈ tables_1, d.before a0 Z = true) : (Jvm.Cond.code ({ cls := "java/lang/AbstractStringBuilder", name := "getValue", desc := "()[B" } : Jvm.MethodName) jdk_68_method_64_code (1 : Nat) (Option.some (Jvm.ClassFile.FieldType.array Jvm.ClassFile.FieldType.byte))).before a0 Z = true := hw _ (List.mem_of_getElem? (i := 113) rfl)
theorem w114 {Z : State} {a0 : Array Value} (hw : ∀ d ∈ tables_1, d.before a0 Z = true) : (Jvm.Cond.methodLink "java/lang/String" (549 : Nat) ({ cls := "java/lang/AbstractStringBuilder", name := "length", desc := "()I" } : Jvm.MethodName)).before a0 Z = true := hw _ (List.mem_of_getElem? (i := 114) rfl)
theorem w115 {Z : State} {a0 : Array Value} (hw : ∀ d ∈ tables_1, d.before a0 Z = true) : (Jvm.Cond.declares ({ cls := "java/lang/AbstractStringBuilder", name := "length", desc := "()I" } : Jvm.MethodName)).before a0 Z = true := hw _ (List.mem_of_getElem? (i := 115) rfl)
theorem w116 {Z : State} {a0 : Array Value} (hw : ∀ d ∈ tables_1, d.before a0 Z = true) : (Jvm.Cond.instanceMethod ({ cls := "java/lang/AbstractStringBuilder", name := "length", desc := "()I" } : Jvm.MethodName)).before a0 Z = true := hw _ (List.mem_of_getElem? (i := 116) rfl)
theorem w117 {Z : State} {a0 : Array Value} (hw : ∀ d ∈ tables_1, d.before a0 Z = true) : (Jvm.Cond.selects "java/lang/StringBuilder" ({ cls := "java/lang/AbstractStringBuilder", name := "length", desc := "()I" } : Jvm.MethodName) ({ cls := "java/lang/StringBuilder", name := "length", desc := "()I" } : Jvm.MethodName)).before a0 Z = true := hw _ (List.mem_of_getElem? (i := 117) rfl)
theorem w118 {Z : State} {a0 : Array Value} (hw : ∀ d ∈ tables_1, d.before a0 Z = true) : (Jvm.Cond.instanceMethod ({ cls := "java/lang/StringBuilder", name := "length", desc := "()I" } : Jvm.MethodName)).before a0 Z = true := hw _ (List.mem_of_getElem? (i := 118) rfl)
theorem w119 {Z : State} {a0 : Array Value} (hw : ∀ d ∈ tables_1, d.before a0 Z = true) : (Jvm.Cond.code ({ cls := "java/lang/StringBuilder", name := "length", desc := "()I" } : Jvm.MethodName) jdk_67_method_93_code (1 : Nat) (Option.some Jvm.ClassFile.FieldType.int)).before a0 Z = true := hw _ (List.mem_of_getElem? (i := 119) rfl)
theorem w120 {Z : State} {a0 : Array Value} (hw : ∀ d ∈ tables_1, d.before a0 Z = true) : (Jvm.Cond.methodLink "java/lang/StringBuilder" (343 : Nat) ({ cls := "java/lang/AbstractStringBuilder", name := "length", desc := "()I" } : Jvm.MethodName)).before a0 Z = true := hw _ (List.mem_of_getElem? (i := 120) rfl)
theorem w121 {Z : State} {a0 : Array Value} (hw : ∀ d ∈ tables_1, d.before a0 Z = true) : (Jvm.Cond.code ({ cls := "java/lang/AbstractStringBuilder", name := "length", desc := "()I" } : Jvm.MethodName) jdk_68_method_6_code (1 : Nat) (Option.some Jvm.ClassFile.FieldType.int)).before a0 Z = true := hw _ (List.mem_of_getElem? (i := 121) rfl)
theorem w122 {Z : State} {a0 : Array Value} (hw : ∀ d ∈ tables_1, d.before a0 Z = true) : (Jvm.Cond.methodLink "java/lang/String" (1047 : Nat) ({ cls := "java/lang/AbstractStringBuilder", name := "isLatin1", desc := "()Z" } : Jvm.MethodName)).before a0 Z = true := hw _ (List.mem_of_getElem? (i := 122) rfl)
theorem w123 {Z : State} {a0 : Array Value} (hw : ∀ d ∈ tables_1, d.before a0 Z = true) : (Jvm.Cond.declares ({ cls := "java/lang/AbstractStringBuilder", name := "isLatin1", desc := "()Z" } : Jvm.MethodName)).before a0 Z = true := hw _ (List.mem_of_getElem? (i := 123) rfl)
theorem w124 {Z : State} {a0 : Array Value} (hw : ∀ d ∈ tables_1, d.before a0 Z = true) : (Jvm.Cond.instanceMethod ({ cls := "java/lang/AbstractStringBuilder", name := "isLatin1", desc := "()Z" } : Jvm.MethodName)).before a0 Z = true := hw _ (List.mem_of_getElem? (i := 124) rfl)
theorem w125 {Z : State} {a0 : Array Value} (hw : ∀ d ∈ tables_1, d.before a0 Z = true) : (Jvm.Cond.selects "java/lang/StringBuilder" ({ cls := "java/lang/AbstractStringBuilder", name := "isLatin1", desc := "()Z" } : Jvm.MethodName) ({ cls := "java/lang/AbstractStringBuilder", name := "isLatin1", desc := "()Z" } : Jvm.MethodName)).before a0 Z = true := hw _ (List.mem_of_getElem? (i := 125) rfl)
theorem w126 {Z : State} {a0 : Array Value} (hw : ∀ d ∈ tables_1, d.before a0 Z = true) : (Jvm.Cond.code ({ cls := "java/lang/AbstractStringBuilder", name := "isLatin1", desc := "()Z" } : Jvm.MethodName) jdk_68_method_68_code (1 : Nat) (Option.some Jvm.ClassFile.FieldType.boolean)).before a0 Z = true := hw _ (List.mem_of_getElem? (i := 126) rfl)
theorem w127 {Z : State} {a0 : Array Value} (hw : ∀ d ∈ tables_1, d.before a0 Z = true) : (Jvm.Cond.methodLink "java/lang/String" (54 : Nat) ({ cls := "java/util/Arrays", name := "copyOfRange", desc := "([BII)[B" } : Jvm.MethodName)).before a0 Z = true := hw _ (List.mem_of_getElem? (i := 127) rfl)
theorem w128 {Z : State} {a0 : Array Value} (hw : ∀ d ∈ tables_1, d.before a0 Z = true) : (Jvm.Cond.static ({ cls := "java/util/Arrays", name := "copyOfRange", desc := "([BII)[B" } : Jvm.MethodName)).before a0 Z = true := hw _ (List.mem_of_getElem? (i := 128) rfl)
theorem w129 {Z : State} {a0 : Array Value} (hw : ∀ d ∈ tables_1, d.before a0 Z = true) : (Jvm.Cond.initialized "java/util/Arrays").before a0 Z = true := hw _ (List.mem_of_getElem? (i := 129) rfl)
theorem w130 {Z : State} {a0 : Array Value} (hw : ∀ d ∈ tables_1, d.before a0 Z = true) : (Jvm.Cond.code ({ cls := "java/util/Arrays", name := "copyOfRange", desc := "([BII)[B" } : Jvm.MethodName) jdk_65_method_132_code (3 : Nat) (Option.some (Jvm.ClassFile.FieldType.array Jvm.ClassFile.FieldType.byte))).before a0 Z = true := hw _ (List.mem_of_getElem? (i := 130) rfl)
theorem w131 {Z : State} {a0 : Array Value} (hw : ∀ d ∈ tables_1, d.before a0 Z = true) : (Jvm.Cond.methodLink "java/util/Arrays" (339 : Nat) ({ cls := "java/util/Arrays", name := "copyOfRangeByte", desc := "([BII)[B" } : Jvm.MethodName)).before a0 Z = true := hw _ (List.mem_of_getElem? (i := 131) rfl)
theorem w132 {Z : State} {a0 : Array Value} (hw : ∀ d ∈ tables_1, d.before a0 Z = true) : (Jvm.Cond.static ({ cls := "java/util/Arrays", name := "copyOfRangeByte", desc := "([BII)[B" } : Jvm.MethodName)).before a0 Z = true := hw _ (List.mem_of_getElem? (i := 132) rfl)
theorem w133 {Z : State} {a0 : Array Value} (hw : ∀ d ∈ tables_1, d.before a0 Z = true) : (Jvm.Cond.code ({ cls := "java/util/Arrays", name := "copyOfRangeByte", desc := "([BII)[B" } : Jvm.MethodName) jdk_65_method_133_code (5 : Nat) (Option.some (Jvm.ClassFile.FieldType.array Jvm.ClassFile.FieldType.byte))).before a0 Z = true := hw _ (List.mem_of_getElem? (i := 133) rfl)
theorem w134 {Z : State} {a0 : Array Value} (hw : ∀ d ∈ tables_1, d.before a0 Z = true) : (Jvm.Cond.methodLink "java/util/Arrays" (343 : Nat) ({ cls := "java/util/Arrays", name := "checkLength", desc := "(II)V" } : Jvm.MethodName)).before a0 Z = true := hw _ (List.mem_of_getElem? (i := 134) rfl)
theorem w135 {Z : State} {a0 : Array Value} (hw : ∀ d ∈ tables_1, d.before a0 Z = true) : (Jvm.Cond.static ({ cls := "java/util/Arrays", name := "checkLength", desc := "(II)V" } : Jvm.MethodName)).before a0 Z = true := hw _ (List.mem_of_getElem? (i := 135) rfl)
theorem w136 {Z : State} {a0 : Array Value} (hw : ∀ d ∈ tables_1, d.before a0 Z = true) : (Jvm.Cond.code ({ cls := "java/util/Arrays", name := "checkLength", desc := "(II)V" } : Jvm.MethodName) jdk_65_method_131_code (2 : Nat) (Option.none : Option Jvm.ClassFile.FieldType)).before a0 Z = true := hw _ (List.mem_of_getElem? (i := 136) rfl)
theorem w137 {Z : State} {a0 : Array Value} (hw : ∀ d ∈ tables_1, d.before a0 Z = true) : (Jvm.Cond.methodLink "java/util/Arrays" (304 : Nat) ({ cls := "java/lang/Math", name := "min", desc := "(II)I" } : Jvm.MethodName)).before a0 Z = true := hw _ (List.mem_of_getElem? (i := 137) rfl)
theorem w138 {Z : State} {a0 : Array Value} (hw : ∀ d ∈ tables_1, d.before a0 Z = true) : (Jvm.Cond.static ({ cls := "java/lang/Math", name := "min", desc := "(II)I" } : Jvm.MethodName)).before a0 Z = true := hw _ (List.mem_of_getElem? (i := 138) rfl)
theorem w139 {Z : State} {a0 : Array Value} (hw : ∀ d ∈ tables_1, d.before a0 Z = true) : (Jvm.Cond.initialized "java/lang/Math").before a0 Z = true := hw _ (List.mem_of_getElem? (i := 139) rfl)
theorem w140 {Z : State} {a0 : Array Value} (hw : ∀ d ∈ tables_1, d.before a0 Z = true) : (Jvm.Cond.code ({ cls := "java/lang/Math", name := "min", desc := "(II)I" } : Jvm.MethodName) jdk_29_method_69_code (2 : Nat) (Option.some Jvm.ClassFile.FieldType.int)).before a0 Z = true := hw _ (List.mem_of_getElem? (i := 140) rfl)
theorem w141 {Z : State} {a0 : Array Value} (hw : ∀ d ∈ tables_1, d.before a0 Z = true) : (Jvm.Cond.methodLink "java/util/Arrays" (150 : Nat) ({ cls := "java/lang/System", name := "arraycopy", desc := "(Ljava/lang/Object;ILjava/lang/Object;II)V" } : Jvm.MethodName)).before a0 Z = true := hw _ (List.mem_of_getElem? (i := 141) rfl)
theorem w142 {Z : State} {a0 : Array Value} (hw : ∀ d ∈ tables_1, d.before a0 Z = true) : (Jvm.Cond.methodLink "com/example/sieve_for_sparql/sieveforsparql/Options" (66 : Nat) ({ cls := "com/example/sieve_for_sparql/sieveforsparql/InputException", name := "<init>", desc := "(Ljava/lang/String;)V" } : Jvm.MethodName)).before a0 Z = true := hw _ (List.mem_of_getElem? (i := 142) rfl)
theorem w143 {Z : State} {a0 : Array Value} (hw : ∀ d ∈ tables_1, d.before a0 Z = true) : (Jvm.Cond.instanceMethod ({ cls := "com/example/sieve_for_sparql/sieveforsparql/InputException", name := "<init>", desc := "(Ljava/lang/String;)V" } : Jvm.MethodName)).before a0 Z = true := hw _ (List.mem_of_getElem? (i := 143) rfl)
theorem w144 {Z : State} {a0 : Array Value} (hw : ∀ d ∈ tables_1, d.before a0 Z = true) : (Jvm.Cond.code ({ cls := "com/example/sieve_for_sparql/sieveforsparql/InputException", name := "<init>", desc := "(Ljava/lang/String;)V" } : Jvm.MethodName) prog_3_method_1_code (2 : Nat) (Option.none : Option Jvm.ClassFile.FieldType)).before a0 Z = true := hw _ (List.mem_of_getElem? (i := 144) rfl)
theorem w145 {Z : State} {a0 : Array Value} (hw : ∀ d ∈ tables_1, d.before a0 Z = true) : (Jvm.Cond.methodLink "com/example/sieve_for_sparql/sieveforsparql/InputException" (1 : Nat) ({ cls := "java/lang/RuntimeException", name := "<init>", desc := "(Ljava/lang/String;)V" } : Jvm.MethodName)).before a0 Z = true := hw _ (List.mem_of_getElem? (i := 145) rfl)
theorem w146 {Z : State} {a0 : Array Value} (hw : ∀ d ∈ tables_1, d.before a0 Z = true) : (Jvm.Cond.instanceMethod ({ cls := "java/lang/RuntimeException", name := "<init>", desc := "(Ljava/lang/String;)V" } : Jvm.MethodName)).before a0 Z = true := hw _ (List.mem_of_getElem? (i := 146) rfl)
theorem w148 {Z : State} {a0 : Array Value} (hw : ∀ d ∈ tables_1, d.before a0 Z = true) : (Jvm.Cond.initialized "java/lang/RuntimeException").before a0 Z = true := hw _ (List.mem_of_getElem? (i := 148) rfl)
theorem w149 {Z : State} {a0 : Array Value} (hw : ∀ d ∈ tables_1, d.before a0 Z = true) : (Jvm.Cond.code ({ cls := "java/lang/RuntimeException", name := "<init>", desc := "(Ljava/lang/String;)V" } : Jvm.MethodName) jdk_58_method_2_code (2 : Nat) (Option.none : Option Jvm.ClassFile.FieldType)).before a0 Z = true := hw _ (List.mem_of_getElem? (i := 149) rfl)
theorem w150 {Z : State} {a0 : Array Value} (hw : ∀ d ∈ tables_1, d.before a0 Z = true) : (Jvm.Cond.methodLink "java/lang/RuntimeException" (7 : Nat) ({ cls := "java/lang/Exception", name := "<init>", desc := "(Ljava/lang/String;)V" } : Jvm.MethodName)).before a0 Z = true := hw _ (List.mem_of_getElem? (i := 150) rfl)
theorem w151 {Z : State} {a0 : Array Value} (hw : ∀ d ∈ tables_1, d.before a0 Z = true) : (Jvm.Cond.instanceMethod ({ cls := "java/lang/Exception", name := "<init>", desc := "(Ljava/lang/String;)V" } : Jvm.MethodName)).before a0 Z = true := hw _ (List.mem_of_getElem? (i := 151) rfl)
theorem w154 {Z : State} {a0 : Array Value} (hw : ∀ d ∈ tables_1, d.before a0 Z = true) : (Jvm.Cond.initialized "java/lang/Exception").before a0 Z = true := hw _ (List.mem_of_getElem? (i := 154) rfl)
theorem w155 {Z : State} {a0 : Array Value} (hw : ∀ d ∈ tables_1, d.before a0 Z = true) : (Jvm.Cond.code ({ cls := "java/lang/Exception", name := "<init>", desc := "(Ljava/lang/String;)V" } : Jvm.MethodName) jdk_59_method_2_code (2 : Nat) (Option.none : Option Jvm.ClassFile.FieldType)).before a0 Z = true := hw _ (List.mem_of_getElem? (i := 155) rfl)
theorem w156 {Z : State} {a0 : Array Value} (hw : ∀ d ∈ tables_1, d.before a0 Z = true) : (Jvm.Cond.methodLink "java/lang/Exception" (7 : Nat) ({ cls := "java/lang/Throwable", name := "<init>", desc := "(Ljava/lang/String;)V" } : Jvm.MethodName)).before a0 Z = true := hw _ (List.mem_of_getElem? (i := 156) rfl)
theorem w157 {Z : State} {a0 : Array Value} (hw : ∀ d ∈ tables_1, d.before a0 Z = true) : (Jvm.Cond.instanceMethod ({ cls := "java/lang/Throwable", name := "<init>", desc := "(Ljava/lang/String;)V" } : Jvm.MethodName)).before a0 Z = true := hw _ (List.mem_of_getElem? (i := 157) rfl)
theorem w160 {Z : State} {a0 : Array Value} (hw : ∀ d ∈ tables_1, d.before a0 Z = true) : (Jvm.Cond.initialized "java/lang/Throwable").before a0 Z = true := hw _ (List.mem_of_getElem? (i := 160) rfl)
theorem w161 {Z : State} {a0 : Array Value} (hw : ∀ d ∈ tables_1, d.before a0 Z = true) : (Jvm.Cond.code ({ cls := "java/lang/Throwable", name := "<init>", desc := "(Ljava/lang/String;)V" } : Jvm.MethodName) jdk_78_method_2_code (2 : Nat) (Option.none : Option Jvm.ClassFile.FieldType)).before a0 Z = true := hw _ (List.mem_of_getElem? (i := 161) rfl)
theorem w164 {Z : State} {a0 : Array Value} (hw : ∀ d ∈ tables_1, d.before a0 Z = true) : (Jvm.Cond.lays "com/example/sieve_for_sparql/sieveforsparql/InputException" "java/lang/Throwable" "cause" "Ljava/lang/Throwable;").before a0 Z = true := hw _ (List.mem_of_getElem? (i := 164) rfl)
theorem w167 {Z : State} {a0 : Array Value} (hw : ∀ d ∈ tables_1, d.before a0 Z = true) : (Jvm.Cond.lays "com/example/sieve_for_sparql/sieveforsparql/InputException" "java/lang/Throwable" "stackTrace" "[Ljava/lang/StackTraceElement;").before a0 Z = true := hw _ (List.mem_of_getElem? (i := 167) rfl)
theorem w170 {Z : State} {a0 : Array Value} (hw : ∀ d ∈ tables_1, d.before a0 Z = true) : (Jvm.Cond.lays "com/example/sieve_for_sparql/sieveforsparql/InputException" "java/lang/Throwable" "suppressedExceptions" "Ljava/util/List;").before a0 Z = true := hw _ (List.mem_of_getElem? (i := 170) rfl)
theorem w191 {Z : State} {a0 : Array Value} (hw : ∀ d ∈ tables_1, d.before a0 Z = true) : (Jvm.Cond.laysStatic "java/lang/Throwable" "UNASSIGNED_STACK" "[Ljava/lang/StackTraceElement;").before a0 Z = true := hw _ (List.mem_of_getElem? (i := 191) rfl)
theorem w192 {Z : State} {a0 : Array Value} (hw : ∀ d ∈ tables_1, d.before a0 Z = true) : (Jvm.Cond.laysStatic "java/lang/Throwable" "SUPPRESSED_SENTINEL" "Ljava/util/List;").before a0 Z = true := hw _ (List.mem_of_getElem? (i := 192) rfl)
theorem w194 {Z : State} {a0 : Array Value} (hw : ∀ d ∈ tables_1, d.before a0 Z = true) : (Jvm.Cond.lays "com/example/sieve_for_sparql/sieveforsparql/InputException" "java/lang/Throwable" "detailMessage" "Ljava/lang/String;").before a0 Z = true := hw _ (List.mem_of_getElem? (i := 194) rfl)
theorem w195 {Z : State} {a0 : Array Value} (hw : ∀ d ∈ tables_1, d.before a0 Z = true) : (Jvm.Cond.lays "com/example/sieve_for_sparql/sieveforsparql/InputException" "java/lang/Throwable" "backtrace" "Ljava/lang/Object;").before a0 Z = true := hw _ (List.mem_of_getElem? (i := 195) rfl)
theorem w198 {Z : State} {a0 : Array Value} (hw : ∀ d ∈ tables_1, d.before a0 Z = true) : (Jvm.Cond.fieldLink "java/lang/Throwable" (31 : Nat) "java/lang/Throwable" "detailMessage" "Ljava/lang/String;").before a0 Z = true := hw _ (List.mem_of_getElem? (i := 198) rfl)
theorem w199 {Z : State} {a0 : Array Value} (hw : ∀ d ∈ tables_1, d.before a0 Z = true) : (Jvm.Cond.methodLink "com/example/sieve_for_sparql/sieveforsparql/OptionsMissingPinLaw" (19 : Nat) ({ cls := "com/example/sieve_for_sparql/sieveforsparql/InputException", name := "getMessage", desc := "()Ljava/lang/String;" } : Jvm.MethodName)).before a0 Z = true := hw _ (List.mem_of_getElem? (i := 199) rfl)
theorem w200 {Z : State} {a0 : Array Value} (hw : ∀ d ∈ tables_1, d.before a0 Z = true) : (Jvm.Cond.sameMethod "com/example/sieve_for_sparql/sieveforsparql/InputException" "java/lang/Throwable" "getMessage" "()Ljava/lang/String;").before a0 Z = true := hw _ (List.mem_of_getElem? (i := 200) rfl)
theorem w201 {Z : State} {a0 : Array Value} (hw : ∀ d ∈ tables_1, d.before a0 Z = true) : (Jvm.Cond.declares ({ cls := "java/lang/Throwable", name := "getMessage", desc := "()Ljava/lang/String;" } : Jvm.MethodName)).before a0 Z = true := hw _ (List.mem_of_getElem? (i := 201) rfl)
theorem w202 {Z : State} {a0 : Array Value} (hw : ∀ d ∈ tables_1, d.before a0 Z = true) : (Jvm.Cond.instanceMethod ({ cls := "java/lang/Throwable", name := "getMessage", desc := "()Ljava/lang/String;" } : Jvm.MethodName)).before a0 Z = true := hw _ (List.mem_of_getElem? (i := 202) rfl)
theorem w203 {Z : State} {a0 : Array Value} (hw : ∀ d ∈ tables_1, d.before a0 Z = true) : (Jvm.Cond.selects "com/example/sieve_for_sparql/sieveforsparql/InputException" ({ cls := "com/example/sieve_for_sparql/sieveforsparql/InputException", name := "getMessage", desc := "()Ljava/lang/String;" } : Jvm.MethodName) ({ cls := "java/lang/Throwable", name := "getMessage", desc := "()Ljava/lang/String;" } : Jvm.MethodName)).before a0 Z = true := hw _ (List.mem_of_getElem? (i := 203) rfl)
theorem w204 {Z : State} {a0 : Array Value} (hw : ∀ d ∈ tables_1, d.before a0 Z = true) : (Jvm.Cond.code ({ cls := "java/lang/Throwable", name := "getMessage", desc := "()Ljava/lang/String;" } : Jvm.MethodName) jdk_78_method_6_code (1 : Nat) (Option.some (Jvm.ClassFile.FieldType.object "java/lang/String"))).before a0 Z = true := hw _ (List.mem_of_getElem? (i := 204) rfl)
theorem w205 {Z : State} {a0 : Array Value} (hw : ∀ d ∈ tables_1, d.before a0 Z = true) : (Jvm.Cond.methodLink "com/example/sieve_for_sparql/sieveforsparql/OptionsMissingPinLaw" (25 : Nat) ({ cls := "java/lang/String", name := "length", desc := "()I" } : Jvm.MethodName)).before a0 Z = true := hw _ (List.mem_of_getElem? (i := 205) rfl)
theorem w206 {Z : State} {a0 : Array Value} (hw : ∀ d ∈ tables_1, d.before a0 Z = true) : (Jvm.Cond.methodLink "com/example/sieve_for_sparql/sieveforsparql/OptionsMissingPinLaw" (29 : Nat) ({ cls := "java/lang/String", name := "charAt", desc := "(I)C" } : Jvm.MethodName)).before a0 Z = true := hw _ (List.mem_of_getElem? (i := 206) rfl)
theorem w207 {Z : State} {a0 : Array Value} (hw : ∀ d ∈ tables_1, d.before a0 Z = true) : (Jvm.Cond.declares ({ cls := "java/lang/String", name := "charAt", desc := "(I)C" } : Jvm.MethodName)).before a0 Z = true := hw _ (List.mem_of_getElem? (i := 207) rfl)
theorem w208 {Z : State} {a0 : Array Value} (hw : ∀ d ∈ tables_1, d.before a0 Z = true) : (Jvm.Cond.instanceMethod ({ cls := "java/lang/String", name := "charAt", desc := "(I)C" } : Jvm.MethodName)).before a0 Z = true := hw _ (List.mem_of_getElem? (i := 208) rfl)
theorem w209 {Z : State} {a0 : Array Value} (hw : ∀ d ∈ tables_1, d.before a0 Z = true) : (Jvm.Cond.selects "java/lang/String" ({ cls := "java/lang/String", name := "charAt", desc := "(I)C" } : Jvm.MethodName) ({ cls := "java/lang/String", name := "charAt", desc := "(I)C" } : Jvm.MethodName)).before a0 Z = true := hw _ (List.mem_of_getElem? (i := 209) rfl)
theorem w210 {Z : State} {a0 : Array Value} (hw : ∀ d ∈ tables_1, d.before a0 Z = true) : (Jvm.Cond.code ({ cls := "java/lang/String", name := "charAt", desc := "(I)C" } : Jvm.MethodName) jdk_42_method_56_code (2 : Nat) (Option.some Jvm.ClassFile.FieldType.char)).before a0 Z = true := hw _ (List.mem_of_getElem? (i := 210) rfl)
theorem w211 {Z : State} {a0 : Array Value} (hw : ∀ d ∈ tables_1, d.before a0 Z = true) : (Jvm.Cond.methodLink "java/lang/String" (492 : Nat) ({ cls := "java/lang/String", name := "isLatin1", desc := "()Z" } : Jvm.MethodName)).before a0 Z = true := hw _ (List.mem_of_getElem? (i := 211) rfl)
theorem w212 {Z : State} {a0 : Array Value} (hw : ∀ d ∈ tables_1, d.before a0 Z = true) : (Jvm.Cond.declares ({ cls := "java/lang/String", name := "isLatin1", desc := "()Z" } : Jvm.MethodName)).before a0 Z = true := hw _ (List.mem_of_getElem? (i := 212) rfl)
theorem w213 {Z : State} {a0 : Array Value} (hw : ∀ d ∈ tables_1, d.before a0 Z = true) : (Jvm.Cond.instanceMethod ({ cls := "java/lang/String", name := "isLatin1", desc := "()Z" } : Jvm.MethodName)).before a0 Z = true := hw _ (List.mem_of_getElem? (i := 213) rfl)
theorem w214 {Z : State} {a0 : Array Value} (hw : ∀ d ∈ tables_1, d.before a0 Z = true) : (Jvm.Cond.selects "java/lang/String" ({ cls := "java/lang/String", name := "isLatin1", desc := "()Z" } : Jvm.MethodName) ({ cls := "java/lang/String", name := "isLatin1", desc := "()Z" } : Jvm.MethodName)).before a0 Z = true := hw _ (List.mem_of_getElem? (i := 214) rfl)
theorem w215 {Z : State} {a0 : Array Value} (hw : ∀ d ∈ tables_1, d.before a0 Z = true) : (Jvm.Cond.code ({ cls := "java/lang/String", name := "isLatin1", desc := "()Z" } : Jvm.MethodName) jdk_42_method_154_code (1 : Nat) (Option.some Jvm.ClassFile.FieldType.boolean)).before a0 Z = true := hw _ (List.mem_of_getElem? (i := 215) rfl)
theorem w216 {Z : State} {a0 : Array Value} (hw : ∀ d ∈ tables_1, d.before a0 Z = true) : (Jvm.Cond.methodLink "java/lang/String" (495 : Nat) ({ cls := "java/lang/StringLatin1", name := "charAt", desc := "([BI)C" } : Jvm.MethodName)).before a0 Z = true := hw _ (List.mem_of_getElem? (i := 216) rfl)
theorem w217 {Z : State} {a0 : Array Value} (hw : ∀ d ∈ tables_1, d.before a0 Z = true) : (Jvm.Cond.static ({ cls := "java/lang/StringLatin1", name := "charAt", desc := "([BI)C" } : Jvm.MethodName)).before a0 Z = true := hw _ (List.mem_of_getElem? (i := 217) rfl)
theorem w218 {Z : State} {a0 : Array Value} (hw : ∀ d ∈ tables_1, d.before a0 Z = true) : (Jvm.Cond.initialized "java/lang/StringLatin1").before a0 Z = true := hw _ (List.mem_of_getElem? (i := 218) rfl)
theorem w219 {Z : State} {a0 : Array Value} (hw : ∀ d ∈ tables_1, d.before a0 Z = true) : (Jvm.Cond.code ({ cls := "java/lang/StringLatin1", name := "charAt", desc := "([BI)C" } : Jvm.MethodName) jdk_43_method_2_code (2 : Nat) (Option.some Jvm.ClassFile.FieldType.char)).before a0 Z = true := hw _ (List.mem_of_getElem? (i := 219) rfl)
theorem w220 {Z : State} {a0 : Array Value} (hw : ∀ d ∈ tables_1, d.before a0 Z = true) : (Jvm.Cond.methodLink "java/lang/StringLatin1" (9 : Nat) ({ cls := "java/lang/String", name := "checkIndex", desc := "(II)V" } : Jvm.MethodName)).before a0 Z = true := hw _ (List.mem_of_getElem? (i := 220) rfl)
theorem w221 {Z : State} {a0 : Array Value} (hw : ∀ d ∈ tables_1, d.before a0 Z = true) : (Jvm.Cond.static ({ cls := "java/lang/String", name := "checkIndex", desc := "(II)V" } : Jvm.MethodName)).before a0 Z = true := hw _ (List.mem_of_getElem? (i := 221) rfl)
theorem w222 {Z : State} {a0 : Array Value} (hw : ∀ d ∈ tables_1, d.before a0 Z = true) : (Jvm.Cond.code ({ cls := "java/lang/String", name := "checkIndex", desc := "(II)V" } : Jvm.MethodName) jdk_42_method_155_code (2 : Nat) (Option.none : Option Jvm.ClassFile.FieldType)).before a0 Z = true := hw _ (List.mem_of_getElem? (i := 222) rfl)
theorem w223 {Z : State} {a0 : Array Value} (hw : ∀ d ∈ tables_1, d.before a0 Z = true) : (Jvm.Cond.fieldLink "java/lang/String" (1053 : Nat) "jdk/internal/util/Preconditions" "SIOOBE_FORMATTER" "Ljava/util/function/BiFunction;").before a0 Z = true := hw _ (List.mem_of_getElem? (i := 223) rfl)
theorem w224 {Z : State} {a0 : Array Value} (hw : ∀ d ∈ tables_1, d.before a0 Z = true) : (Jvm.Cond.initialized "jdk/internal/util/Preconditions").before a0 Z = true := hw _ (List.mem_of_getElem? (i := 224) rfl)
theorem w225 {Z : State} {a0 : Array Value} (hw : ∀ d ∈ tables_1, d.before a0 Z = true) : (Jvm.Cond.methodLink "java/lang/String" (1059 : Nat) ({ cls := "jdk/internal/util/Preconditions", name := "checkIndex", desc := "(IILjava/util/function/BiFunction;)I" } : Jvm.MethodName)).before a0 Z = true := hw _ (List.mem_of_getElem? (i := 225) rfl)
theorem w226 {Z : State} {a0 : Array Value} (hw : ∀ d ∈ tables_1, d.before a0 Z = true) : (Jvm.Cond.static ({ cls := "jdk/internal/util/Preconditions", name := "checkIndex", desc := "(IILjava/util/function/BiFunction;)I" } : Jvm.MethodName)).before a0 Z = true := hw _ (List.mem_of_getElem? (i := 226) rfl)
theorem w227 {Z : State} {a0 : Array Value} (hw : ∀ d ∈ tables_1, d.before a0 Z = true) : (Jvm.Cond.code ({ cls := "jdk/internal/util/Preconditions", name := "checkIndex", desc := "(IILjava/util/function/BiFunction;)I" } : Jvm.MethodName) jdk_41_method_11_code (3 : Nat) (Option.some Jvm.ClassFile.FieldType.int)).before a0 Z = true := hw _ (List.mem_of_getElem? (i := 227) rfl)
theorem w228 {Z : State} {a0 : Array Value} (hw : ∀ d ∈ tables_1, d.before a0 Z = true) : (Jvm.Cond.methodLink "java/lang/AbstractStringBuilder" (204 : Nat) ({ cls := "java/lang/AbstractStringBuilder", name := "appendNull", desc := "()Ljava/lang/AbstractStringBuilder;" } : Jvm.MethodName)).before a0 Z = true := hw _ (List.mem_of_getElem? (i := 228) rfl)
theorem w229 {Z : State} {a0 : Array Value} (hw : ∀ d ∈ tables_1, d.before a0 Z = true) : (Jvm.Cond.instanceMethod ({ cls := "java/lang/AbstractStringBuilder", name := "appendNull", desc := "()Ljava/lang/AbstractStringBuilder;" } : Jvm.MethodName)).before a0 Z = true := hw _ (List.mem_of_getElem? (i := 229) rfl)
theorem w231 {Z : State} {a0 : Array Value} (hw : ∀ d ∈ tables_1, d.before a0 Z = true) : (Jvm.Cond.selects "java/lang/StringBuilder" ({ cls := "java/lang/AbstractStringBuilder", name := "appendNull", desc := "()Ljava/lang/AbstractStringBuilder;" } : Jvm.MethodName) ({ cls := "java/lang/AbstractStringBuilder", name := "appendNull", desc := "()Ljava/lang/AbstractStringBuilder;" } : Jvm.MethodName)).before a0 Z = true := hw _ (List.mem_of_getElem? (i := 231) rfl)
theorem w232 {Z : State} {a0 : Array Value} (hw : ∀ d ∈ tables_1, d.before a0 Z = true) : (Jvm.Cond.code ({ cls := "java/lang/AbstractStringBuilder", name := "appendNull", desc := "()Ljava/lang/AbstractStringBuilder;" } : Jvm.MethodName) jdk_68_method_26_code (3 : Nat) (Option.some (Jvm.ClassFile.FieldType.object "java/lang/AbstractStringBuilder"))).before a0 Z = true := hw _ (List.mem_of_getElem? (i := 232) rfl)
theorem w233 {Z : State} {a0 : Array Value} (hw : ∀ d ∈ tables_1, d.before a0 Z = true) : (Jvm.Cond.methodLink "java/lang/AbstractStringBuilder" (83 : Nat) ({ cls := "java/lang/AbstractStringBuilder", name := "isLatin1", desc := "()Z" } : Jvm.MethodName)).before a0 Z = true := hw _ (List.mem_of_getElem? (i := 233) rfl)
theorem w234 {Z : State} {a0 : Array Value} (hw : ∀ d ∈ tables_1, d.before a0 Z = true) : (Jvm.Cond.methodLink "java/util/Arrays" (310 : Nat) ({ cls := "[B", name := "clone", desc := "()Ljava/lang/Object;" } : Jvm.MethodName)).before a0 Z = true := hw _ (List.mem_of_getElem? (i := 234) rfl)
theorem w235 {Z : State} {a0 : Array Value} (hw : ∀ d ∈ tables_1, d.before a0 Z = true) : (Jvm.Cond.sameMethod "[B" "java/lang/Object" "clone" "()Ljava/lang/Object;").before a0 Z = true := hw _ (List.mem_of_getElem? (i := 235) rfl)
theorem w237 {Z : State} {a0 : Array Value} (hw : ∀ d ∈ tables_1, d.before a0 Z = true) : (Jvm.Cond.instanceMethod ({ cls := "java/lang/Object", name := "clone", desc := "()Ljava/lang/Object;" } : Jvm.MethodName)).before a0 Z = true := hw _ (List.mem_of_getElem? (i := 237) rfl)
theorem w238 {Z : State} {a0 : Array Value} (hw : ∀ d ∈ tables_1, d.before a0 Z = true) : (Jvm.Cond.selects "[B" ({ cls := "[B", name := "clone", desc := "()Ljava/lang/Object;" } : Jvm.MethodName) ({ cls := "java/lang/Object", name := "clone", desc := "()Ljava/lang/Object;" } : Jvm.MethodName)).before a0 Z = true := hw _ (List.mem_of_getElem? (i := 238) rfl)
theorem w239 {Z : State} {a0 : Array Value} (hw : ∀ d ∈ tables_1, d.before a0 Z = true) : (Jvm.Cond.native ({ cls := "java/lang/Object", name := "clone", desc := "()Ljava/lang/Object;" } : Jvm.MethodName)).before a0 Z = true := hw _ (List.mem_of_getElem? (i := 239) rfl)
theorem w240 {Z : State} {a0 : Array Value} (hw : ∀ d ∈ tables_1, d.before a0 Z = true) : (Jvm.Cond.castable "[B" "java/lang/Cloneable").before a0 Z = true := hw _ (List.mem_of_getElem? (i := 240) rfl)
theorem w241 {Z : State} {a0 : Array Value} (hw : ∀ d ∈ tables_1, d.before a0 Z = true) : (Jvm.Cond.classLink "java/util/Arrays" (311 : Nat) "[B").before a0 Z = true := hw _ (List.mem_of_getElem? (i := 241) rfl)
theorem w243 {Z : State} {a0 : Array Value} (hw : ∀ d ∈ tables_1, d.before a0 Z = true) : (Jvm.Cond.methodLink "java/lang/String" (177 : Nat) ({ cls := "java/lang/StringUTF16", name := "compress", desc := "([CII)[B" } : Jvm.MethodName)).before a0 Z = true := hw _ (List.mem_of_getElem? (i := 243) rfl)
theorem w244 {Z : State} {a0 : Array Value} (hw : ∀ d ∈ tables_1, d.before a0 Z = true) : (Jvm.Cond.static ({ cls := "java/lang/StringUTF16", name := "compress", desc := "([CII)[B" } : Jvm.MethodName)).before a0 Z = true := hw _ (List.mem_of_getElem? (i := 244) rfl)
theorem w245 {Z : State} {a0 : Array Value} (hw : ∀ d ∈ tables_1, d.before a0 Z = true) : (Jvm.Cond.initialized "java/lang/StringUTF16").before a0 Z = true := hw _ (List.mem_of_getElem? (i := 245) rfl)
theorem w246 {Z : State} {a0 : Array Value} (hw : ∀ d ∈ tables_1, d.before a0 Z = true) : (Jvm.Cond.code ({ cls := "java/lang/StringUTF16", name := "compress", desc := "([CII)[B" } : Jvm.MethodName) jdk_52_method_16_code (6 : Nat) (Option.some (Jvm.ClassFile.FieldType.array Jvm.ClassFile.FieldType.byte))).before a0 Z = true := hw _ (List.mem_of_getElem? (i := 246) rfl)
theorem w247 {Z : State} {a0 : Array Value} (hw : ∀ d ∈ tables_1, d.before a0 Z = true) : (Jvm.Cond.methodLink "java/lang/StringUTF16" (115 : Nat) ({ cls := "java/lang/StringUTF16", name := "compress", desc := "([CI[BII)I" } : Jvm.MethodName)).before a0 Z = true := hw _ (List.mem_of_getElem? (i := 247) rfl)
theorem w248 {Z : State} {a0 : Array Value} (hw : ∀ d ∈ tables_1, d.before a0 Z = true) : (Jvm.Cond.static ({ cls := "java/lang/StringUTF16", name := "compress", desc := "([CI[BII)I" } : Jvm.MethodName)).before a0 Z = true := hw _ (List.mem_of_getElem? (i := 248) rfl)
theorem w249 {Z : State} {a0 : Array Value} (hw : ∀ d ∈ tables_1, d.before a0 Z = true) : (Jvm.Cond.code ({ cls := "java/lang/StringUTF16", name := "compress", desc := "([CI[BII)I" } : Jvm.MethodName) jdk_52_method_21_code (7 : Nat) (Option.some Jvm.ClassFile.FieldType.int)).before a0 Z = true := hw _ (List.mem_of_getElem? (i := 249) rfl)
theorem w250 {Z : State} {a0 : Array Value} (hw : ∀ d ∈ tables_1, d.before a0 Z = true) : (Jvm.Cond.methodLink "java/lang/StringUTF16" (119 : Nat) ({ cls := "java/lang/StringUTF16", name := "toBytes", desc := "([CII)[B" } : Jvm.MethodName)).before a0 Z = true := hw _ (List.mem_of_getElem? (i := 250) rfl)
theorem w251 {Z : State} {a0 : Array Value} (hw : ∀ d ∈ tables_1, d.before a0 Z = true) : (Jvm.Cond.static ({ cls := "java/lang/StringUTF16", name := "toBytes", desc := "([CII)[B" } : Jvm.MethodName)).before a0 Z = true := hw _ (List.mem_of_getElem? (i := 251) rfl)
theorem w252 {Z : State} {a0 : Array Value} (hw : ∀ d ∈ tables_1, d.before a0 Z = true) : (Jvm.Cond.code ({ cls := "java/lang/StringUTF16", name := "toBytes", desc := "([CII)[B" } : Jvm.MethodName) jdk_52_method_14_code (5 : Nat) (Option.some (Jvm.ClassFile.FieldType.array Jvm.ClassFile.FieldType.byte))).before a0 Z = true := hw _ (List.mem_of_getElem? (i := 252) rfl)
theorem w253 {Z : State} {a0 : Array Value} (hw : ∀ d ∈ tables_1, d.before a0 Z = true) : (Jvm.Cond.methodLink "java/lang/StringUTF16" (107 : Nat) ({ cls := "java/lang/StringUTF16", name := "newBytesFor", desc := "(I)[B" } : Jvm.MethodName)).before a0 Z = true := hw _ (List.mem_of_getElem? (i := 253) rfl)
theorem w254 {Z : State} {a0 : Array Value} (hw : ∀ d ∈ tables_1, d.before a0 Z = true) : (Jvm.Cond.static ({ cls := "java/lang/StringUTF16", name := "newBytesFor", desc := "(I)[B" } : Jvm.MethodName)).before a0 Z = true := hw _ (List.mem_of_getElem? (i := 254) rfl)
theorem w255 {Z : State} {a0 : Array Value} (hw : ∀ d ∈ tables_1, d.before a0 Z = true) : (Jvm.Cond.code ({ cls := "java/lang/StringUTF16", name := "newBytesFor", desc := "(I)[B" } : Jvm.MethodName) jdk_52_method_2_code (1 : Nat) (Option.some (Jvm.ClassFile.FieldType.array Jvm.ClassFile.FieldType.byte))).before a0 Z = true := hw _ (List.mem_of_getElem? (i := 255) rfl)
theorem w256 {Z : State} {a0 : Array Value} (hw : ∀ d ∈ tables_1, d.before a0 Z = true) : (Jvm.Cond.methodLink "java/lang/StringUTF16" (11 : Nat) ({ cls := "java/lang/StringUTF16", name := "newBytesLength", desc := "(I)I" } : Jvm.MethodName)).before a0 Z = true := hw _ (List.mem_of_getElem? (i := 256) rfl)
theorem w257 {Z : State} {a0 : Array Value} (hw : ∀ d ∈ tables_1, d.before a0 Z = true) : (Jvm.Cond.static ({ cls := "java/lang/StringUTF16", name := "newBytesLength", desc := "(I)I" } : Jvm.MethodName)).before a0 Z = true := hw _ (List.mem_of_getElem? (i := 257) rfl)
theorem w258 {Z : State} {a0 : Array Value} (hw : ∀ d ∈ tables_1, d.before a0 Z = true) : (Jvm.Cond.code ({ cls := "java/lang/StringUTF16", name := "newBytesLength", desc := "(I)I" } : Jvm.MethodName) jdk_52_method_3_code (1 : Nat) (Option.some Jvm.ClassFile.FieldType.int)).before a0 Z = true := hw _ (List.mem_of_getElem? (i := 258) rfl)
theorem w259 {Z : State} {a0 : Array Value} (hw : ∀ d ∈ tables_1, d.before a0 Z = true) : (Jvm.Cond.constant "java/lang/StringUTF16" (20 : Nat) (1073741823 : Int32)).before a0 Z = true := hw _ (List.mem_of_getElem? (i := 259) rfl)
theorem w260 {Z : State} {a0 : Array Value} (hw : ∀ d ∈ tables_1, d.before a0 Z = true) : (Jvm.Cond.methodLink "java/lang/StringUTF16" (111 : Nat) ({ cls := "java/lang/StringUTF16", name := "putChar", desc := "([BII)V" } : Jvm.MethodName)).before a0 Z = true := hw _ (List.mem_of_getElem? (i := 260) rfl)
theorem w261 {Z : State} {a0 : Array Value} (hw : ∀ d ∈ tables_1, d.before a0 Z = true) : (Jvm.Cond.static ({ cls := "java/lang/StringUTF16", name := "putChar", desc := "([BII)V" } : Jvm.MethodName)).before a0 Z = true := hw _ (List.mem_of_getElem? (i := 261) rfl)
theorem w262 {Z : State} {a0 : Array Value} (hw : ∀ d ∈ tables_1, d.before a0 Z = true) : (Jvm.Cond.code ({ cls := "java/lang/StringUTF16", name := "putChar", desc := "([BII)V" } : Jvm.MethodName) jdk_52_method_4_code (3 : Nat) (Option.none : Option Jvm.ClassFile.FieldType)).before a0 Z = true := hw _ (List.mem_of_getElem? (i := 262) rfl)
theorem w263 {Z : State} {a0 : Array Value} (hw : ∀ d ∈ tables_1, d.before a0 Z = true) : (Jvm.Cond.fieldLink "java/lang/StringUTF16" (44 : Nat) "java/lang/StringUTF16" "$assertionsDisabled" "Z").before a0 Z = true := hw _ (List.mem_of_getElem? (i := 263) rfl)
theorem w264 {Z : State} {a0 : Array Value} (hw : ∀ d ∈ tables_1, d.before a0 Z = true) : (Jvm.Cond.fieldLink "java/lang/StringUTF16" (59 : Nat) "java/lang/StringUTF16" "HI_BYTE_SHIFT" "I").before a0 Z = true := hw _ (List.mem_of_getElem? (i := 264) rfl)
theorem w265 {Z : State} {a0 : Array Value} (hw : ∀ d ∈ tables_1, d.before a0 Z = true) : (Jvm.Cond.fieldLink "java/lang/StringUTF16" (63 : Nat) "java/lang/StringUTF16" "LO_BYTE_SHIFT" "I").before a0 Z = true := hw _ (List.mem_of_getElem? (i := 265) rfl)
theorem w266 {Z : State} {a0 : Array Value} (hw : ∀ d ∈ tables_1, d.before a0 Z = true) : (Jvm.Cond.methodLink "java/lang/StringUTF16" (71 : Nat) ({ cls := "java/lang/StringUTF16", name := "getChar", desc := "([BI)C" } : Jvm.MethodName)).before a0 Z = true := hw _ (List.mem_of_getElem? (i := 266) rfl)
theorem w267 {Z : State} {a0 : Array Value} (hw : ∀ d ∈ tables_1, d.before a0 Z = true) : (Jvm.Cond.static ({ cls := "java/lang/StringUTF16", name := "getChar", desc := "([BI)C" } : Jvm.MethodName)).before a0 Z = true := hw _ (List.mem_of_getElem? (i := 267) rfl)
theorem w268 {Z : State} {a0 : Array Value} (hw : ∀ d ∈ tables_1, d.before a0 Z = true) : (Jvm.Cond.code ({ cls := "java/lang/StringUTF16", name := "getChar", desc := "([BI)C" } : Jvm.MethodName) jdk_52_method_5_code (2 : Nat) (Option.some Jvm.ClassFile.FieldType.char)).before a0 Z = true := hw _ (List.mem_of_getElem? (i := 268) rfl)
theorem w269 {Z : State} {a0 : Array Value} (hw : ∀ d ∈ tables_1, d.before a0 Z = true) : (Jvm.Cond.methodLink "java/lang/String" (47 : Nat) ({ cls := "java/lang/StringUTF16", name := "coderFromArrayLen", desc := "([BI)B" } : Jvm.MethodName)).before a0 Z = true := hw _ (List.mem_of_getElem? (i := 269) rfl)
theorem w270 {Z : State} {a0 : Array Value} (hw : ∀ d ∈ tables_1, d.before a0 Z = true) : (Jvm.Cond.static ({ cls := "java/lang/StringUTF16", name := "coderFromArrayLen", desc := "([BI)B" } : Jvm.MethodName)).before a0 Z = true := hw _ (List.mem_of_getElem? (i := 270) rfl)
theorem w271 {Z : State} {a0 : Array Value} (hw : ∀ d ∈ tables_1, d.before a0 Z = true) : (Jvm.Cond.code ({ cls := "java/lang/StringUTF16", name := "coderFromArrayLen", desc := "([BI)B" } : Jvm.MethodName) jdk_52_method_15_code (2 : Nat) (Option.some Jvm.ClassFile.FieldType.byte)).before a0 Z = true := hw _ (List.mem_of_getElem? (i := 271) rfl)
theorem w272 {Z : State} {a0 : Array Value} (hw : ∀ d ∈ tables_1, d.before a0 Z = true) : (Jvm.Cond.methodLink "java/lang/AbstractStringBuilder" (195 : Nat) ({ cls := "java/lang/AbstractStringBuilder", name := "inflate", desc := "()V" } : Jvm.MethodName)).before a0 Z = true := hw _ (List.mem_of_getElem? (i := 272) rfl)
theorem w273 {Z : State} {a0 : Array Value} (hw : ∀ d ∈ tables_1, d.before a0 Z = true) : (Jvm.Cond.instanceMethod ({ cls := "java/lang/AbstractStringBuilder", name := "inflate", desc := "()V" } : Jvm.MethodName)).before a0 Z = true := hw _ (List.mem_of_getElem? (i := 273) rfl)
theorem w275 {Z : State} {a0 : Array Value} (hw : ∀ d ∈ tables_1, d.before a0 Z = true) : (Jvm.Cond.selects "java/lang/StringBuilder" ({ cls := "java/lang/AbstractStringBuilder", name := "inflate", desc := "()V" } : Jvm.MethodName) ({ cls := "java/lang/AbstractStringBuilder", name := "inflate", desc := "()V" } : Jvm.MethodName)).before a0 Z = true := hw _ (List.mem_of_getElem? (i := 275) rfl)
theorem w276 {Z : State} {a0 : Array Value} (hw : ∀ d ∈ tables_1, d.before a0 Z = true) : (Jvm.Cond.code ({ cls := "java/lang/AbstractStringBuilder", name := "inflate", desc := "()V" } : Jvm.MethodName) jdk_68_method_11_code (2 : Nat) (Option.none : Option Jvm.ClassFile.FieldType)).before a0 Z = true := hw _ (List.mem_of_getElem? (i := 276) rfl)
theorem w277 {Z : State} {a0 : Array Value} (hw : ∀ d ∈ tables_1, d.before a0 Z = true) : (Jvm.Cond.methodLink "java/lang/AbstractStringBuilder" (26 : Nat) ({ cls := "java/lang/StringUTF16", name := "newBytesFor", desc := "(I)[B" } : Jvm.MethodName)).before a0 Z = true := hw _ (List.mem_of_getElem? (i := 277) rfl)
theorem w278 {Z : State} {a0 : Array Value} (hw : ∀ d ∈ tables_1, d.before a0 Z = true) : (Jvm.Cond.methodLink "java/lang/AbstractStringBuilder" (125 : Nat) ({ cls := "java/lang/StringLatin1", name := "inflate", desc := "([BI[BII)V" } : Jvm.MethodName)).before a0 Z = true := hw _ (List.mem_of_getElem? (i := 278) rfl)
theorem w279 {Z : State} {a0 : Array Value} (hw : ∀ d ∈ tables_1, d.before a0 Z = true) : (Jvm.Cond.static ({ cls := "java/lang/StringLatin1", name := "inflate", desc := "([BI[BII)V" } : Jvm.MethodName)).before a0 Z = true := hw _ (List.mem_of_getElem? (i := 279) rfl)
theorem w280 {Z : State} {a0 : Array Value} (hw : ∀ d ∈ tables_1, d.before a0 Z = true) : (Jvm.Cond.code ({ cls := "java/lang/StringLatin1", name := "inflate", desc := "([BI[BII)V" } : Jvm.MethodName) jdk_43_method_50_code (5 : Nat) (Option.none : Option Jvm.ClassFile.FieldType)).before a0 Z = true := hw _ (List.mem_of_getElem? (i := 280) rfl)
theorem w281 {Z : State} {a0 : Array Value} (hw : ∀ d ∈ tables_1, d.before a0 Z = true) : (Jvm.Cond.methodLink "java/lang/StringLatin1" (240 : Nat) ({ cls := "java/lang/StringUTF16", name := "inflate", desc := "([BI[BII)V" } : Jvm.MethodName)).before a0 Z = true := hw _ (List.mem_of_getElem? (i := 281) rfl)
theorem w282 {Z : State} {a0 : Array Value} (hw : ∀ d ∈ tables_1, d.before a0 Z = true) : (Jvm.Cond.static ({ cls := "java/lang/StringUTF16", name := "inflate", desc := "([BI[BII)V" } : Jvm.MethodName)).before a0 Z = true := hw _ (List.mem_of_getElem? (i := 282) rfl)
theorem w283 {Z : State} {a0 : Array Value} (hw : ∀ d ∈ tables_1, d.before a0 Z = true) : (Jvm.Cond.code ({ cls := "java/lang/StringUTF16", name := "inflate", desc := "([BI[BII)V" } : Jvm.MethodName) jdk_52_method_86_code (6 : Nat) (Option.none : Option Jvm.ClassFile.FieldType)).before a0 Z = true := hw _ (List.mem_of_getElem? (i := 283) rfl)
theorem w284 {Z : State} {a0 : Array Value} (hw : ∀ d ∈ tables_1, d.before a0 Z = true) : (Jvm.Cond.methodLink "java/lang/StringUTF16" (173 : Nat) ({ cls := "java/lang/StringUTF16", name := "checkBoundsOffCount", desc := "(II[B)V" } : Jvm.MethodName)).before a0 Z = true := hw _ (List.mem_of_getElem? (i := 284) rfl)
theorem w285 {Z : State} {a0 : Array Value} (hw : ∀ d ∈ tables_1, d.before a0 Z = true) : (Jvm.Cond.static ({ cls := "java/lang/StringUTF16", name := "checkBoundsOffCount", desc := "(II[B)V" } : Jvm.MethodName)).before a0 Z = true := hw _ (List.mem_of_getElem? (i := 285) rfl)
theorem w286 {Z : State} {a0 : Array Value} (hw : ∀ d ∈ tables_1, d.before a0 Z = true) : (Jvm.Cond.code ({ cls := "java/lang/StringUTF16", name := "checkBoundsOffCount", desc := "(II[B)V" } : Jvm.MethodName) jdk_52_method_94_code (3 : Nat) (Option.none : Option Jvm.ClassFile.FieldType)).before a0 Z = true := hw _ (List.mem_of_getElem? (i := 286) rfl)
theorem w287 {Z : State} {a0 : Array Value} (hw : ∀ d ∈ tables_1, d.before a0 Z = true) : (Jvm.Cond.methodLink "java/lang/StringUTF16" (48 : Nat) ({ cls := "java/lang/StringUTF16", name := "length", desc := "([B)I" } : Jvm.MethodName)).before a0 Z = true := hw _ (List.mem_of_getElem? (i := 287) rfl)
theorem w288 {Z : State} {a0 : Array Value} (hw : ∀ d ∈ tables_1, d.before a0 Z = true) : (Jvm.Cond.static ({ cls := "java/lang/StringUTF16", name := "length", desc := "([B)I" } : Jvm.MethodName)).before a0 Z = true := hw _ (List.mem_of_getElem? (i := 288) rfl)
theorem w289 {Z : State} {a0 : Array Value} (hw : ∀ d ∈ tables_1, d.before a0 Z = true) : (Jvm.Cond.code ({ cls := "java/lang/StringUTF16", name := "length", desc := "([B)I" } : Jvm.MethodName) jdk_52_method_6_code (1 : Nat) (Option.some Jvm.ClassFile.FieldType.int)).before a0 Z = true := hw _ (List.mem_of_getElem? (i := 289) rfl)
theorem w290 {Z : State} {a0 : Array Value} (hw : ∀ d ∈ tables_1, d.before a0 Z = true) : (Jvm.Cond.methodLink "java/lang/StringUTF16" (419 : Nat) ({ cls := "java/lang/String", name := "checkBoundsOffCount", desc := "(III)I" } : Jvm.MethodName)).before a0 Z = true := hw _ (List.mem_of_getElem? (i := 290) rfl)
theorem w291 {Z : State} {a0 : Array Value} (hw : ∀ d ∈ tables_1, d.before a0 Z = true) : (Jvm.Cond.static ({ cls := "java/lang/String", name := "checkBoundsOffCount", desc := "(III)I" } : Jvm.MethodName)).before a0 Z = true := hw _ (List.mem_of_getElem? (i := 291) rfl)
theorem w292 {Z : State} {a0 : Array Value} (hw : ∀ d ∈ tables_1, d.before a0 Z = true) : (Jvm.Cond.code ({ cls := "java/lang/String", name := "checkBoundsOffCount", desc := "(III)I" } : Jvm.MethodName) jdk_42_method_157_code (3 : Nat) (Option.some Jvm.ClassFile.FieldType.int)).before a0 Z = true := hw _ (List.mem_of_getElem? (i := 292) rfl)
theorem w293 {Z : State} {a0 : Array Value} (hw : ∀ d ∈ tables_1, d.before a0 Z = true) : (Jvm.Cond.methodLink "java/lang/String" (1065 : Nat) ({ cls := "jdk/internal/util/Preconditions", name := "checkFromIndexSize", desc := "(IIILjava/util/function/BiFunction;)I" } : Jvm.MethodName)).before a0 Z = true := hw _ (List.mem_of_getElem? (i := 293) rfl)
theorem w294 {Z : State} {a0 : Array Value} (hw : ∀ d ∈ tables_1, d.before a0 Z = true) : (Jvm.Cond.static ({ cls := "jdk/internal/util/Preconditions", name := "checkFromIndexSize", desc := "(IIILjava/util/function/BiFunction;)I" } : Jvm.MethodName)).before a0 Z = true := hw _ (List.mem_of_getElem? (i := 294) rfl)
theorem w295 {Z : State} {a0 : Array Value} (hw : ∀ d ∈ tables_1, d.before a0 Z = true) : (Jvm.Cond.code ({ cls := "jdk/internal/util/Preconditions", name := "checkFromIndexSize", desc := "(IIILjava/util/function/BiFunction;)I" } : Jvm.MethodName) jdk_41_method_13_code (4 : Nat) (Option.some Jvm.ClassFile.FieldType.int)).before a0 Z = true := hw _ (List.mem_of_getElem? (i := 295) rfl)
theorem w296 {Z : State} {a0 : Array Value} (hw : ∀ d ∈ tables_1, d.before a0 Z = true) : (Jvm.Cond.methodLink "java/lang/String" (106 : Nat) ({ cls := "java/lang/StringLatin1", name := "inflate", desc := "([BI[BII)V" } : Jvm.MethodName)).before a0 Z = true := hw _ (List.mem_of_getElem? (i := 296) rfl)
theorem w297 {Z : State} {a0 : Array Value} (hw : ∀ d ∈ tables_1, d.before a0 Z = true) : (Jvm.Cond.fieldLink "java/lang/String" (1048 : Nat) "java/lang/AbstractStringBuilder" "maybeLatin1" "Z").before a0 Z = true := hw _ (List.mem_of_getElem? (i := 297) rfl)
theorem w298 {Z : State} {a0 : Array Value} (hw : ∀ d ∈ tables_1, d.before a0 Z = true) : (Jvm.Cond.lays "java/lang/StringBuilder" "java/lang/AbstractStringBuilder" "maybeLatin1" "Z").before a0 Z = true := hw _ (List.mem_of_getElem? (i := 298) rfl)
theorem w299 {Z : State} {a0 : Array Value} (hw : ∀ d ∈ tables_1, d.before a0 Z = true) : (Jvm.Cond.methodLink "java/lang/String" (498 : Nat) ({ cls := "java/lang/StringUTF16", name := "charAt", desc := "([BI)C" } : Jvm.MethodName)).before a0 Z = true := hw _ (List.mem_of_getElem? (i := 299) rfl)
theorem w300 {Z : State} {a0 : Array Value} (hw : ∀ d ∈ tables_1, d.before a0 Z = true) : (Jvm.Cond.static ({ cls := "java/lang/StringUTF16", name := "charAt", desc := "([BI)C" } : Jvm.MethodName)).before a0 Z = true := hw _ (List.mem_of_getElem? (i := 300) rfl)
theorem w301 {Z : State} {a0 : Array Value} (hw : ∀ d ∈ tables_1, d.before a0 Z = true) : (Jvm.Cond.code ({ cls := "java/lang/StringUTF16", name := "charAt", desc := "([BI)C" } : Jvm.MethodName) jdk_52_method_83_code (2 : Nat) (Option.some Jvm.ClassFile.FieldType.char)).before a0 Z = true := hw _ (List.mem_of_getElem? (i := 301) rfl)
theorem w302 {Z : State} {a0 : Array Value} (hw : ∀ d ∈ tables_1, d.before a0 Z = true) : (Jvm.Cond.methodLink "java/lang/StringUTF16" (67 : Nat) ({ cls := "java/lang/StringUTF16", name := "checkIndex", desc := "(I[B)V" } : Jvm.MethodName)).before a0 Z = true := hw _ (List.mem_of_getElem? (i := 302) rfl)
theorem w303 {Z : State} {a0 : Array Value} (hw : ∀ d ∈ tables_1, d.before a0 Z = true) : (Jvm.Cond.static ({ cls := "java/lang/StringUTF16", name := "checkIndex", desc := "(I[B)V" } : Jvm.MethodName)).before a0 Z = true := hw _ (List.mem_of_getElem? (i := 303) rfl)
theorem w304 {Z : State} {a0 : Array Value} (hw : ∀ d ∈ tables_1, d.before a0 Z = true) : (Jvm.Cond.code ({ cls := "java/lang/StringUTF16", name := "checkIndex", desc := "(I[B)V" } : Jvm.MethodName) jdk_52_method_91_code (2 : Nat) (Option.none : Option Jvm.ClassFile.FieldType)).before a0 Z = true := hw _ (List.mem_of_getElem? (i := 304) rfl)
theorem w305 {Z : State} {a0 : Array Value} (hw : ∀ d ∈ tables_1, d.before a0 Z = true) : (Jvm.Cond.methodLink "java/lang/StringUTF16" (414 : Nat) ({ cls := "java/lang/String", name := "checkIndex", desc := "(II)V" } : Jvm.MethodName)).before a0 Z = true := hw _ (List.mem_of_getElem? (i := 305) rfl)
theorem pd0 : parseMethodDescriptor "(I)I" = some ⟨[.int], some .int⟩ := by decide +kernel
theorem pd1 : parseMethodDescriptor "(I)[B" = some ⟨[.int], some (.array .byte)⟩ := by decide +kernel
theorem pd2 : parseMethodDescriptor "([BII)V" = some ⟨[(.array .byte), .int, .int], none⟩ := by decide +kernel
theorem pd3 : parseMethodDescriptor "([CI[BII)I" = some ⟨[(.array .char), .int, (.array .byte), .int, .int], some .int⟩ := by decide +kernel
theorem pd4 : parseMethodDescriptor "([CII)[B" = some ⟨[(.array .char), .int, .int], some (.array .byte)⟩ := by decide +kernel
theorem pd5 : parseMethodDescriptor "([BI)C" = some ⟨[(.array .byte), .int], some .char⟩ := by decide +kernel
theorem pd6 : parseMethodDescriptor "([BI)B" = some ⟨[(.array .byte), .int], some .byte⟩ := by decide +kernel
theorem pd7 : parseMethodDescriptor "([CIILjava/lang/Void;)V" = some ⟨[(.array .char), .int, .int, (.object "java/lang/Void")], none⟩ := by decide +kernel
theorem pd8 : parseMethodDescriptor "()B" = some ⟨[], some .byte⟩ := by decide +kernel
theorem pd9 : parseMethodDescriptor "(IILjava/util/function/BiFunction;)I" = some ⟨[.int, .int, (.object "java/util/function/BiFunction")], some .int⟩ := by decide +kernel
theorem pd10 : parseMethodDescriptor "([B)I" = some ⟨[(.array .byte)], some .int⟩ := by decide +kernel
theorem pd11 : parseMethodDescriptor "(II)V" = some ⟨[.int, .int], none⟩ := by decide +kernel
theorem pd12 : parseMethodDescriptor "(I[B)V" = some ⟨[.int, (.array .byte)], none⟩ := by decide +kernel
theorem pd13 : parseMethodDescriptor "()Z" = some ⟨[], some .boolean⟩ := by decide +kernel
theorem pd14 : parseMethodDescriptor "(I)V" = some ⟨[.int], none⟩ := by decide +kernel
theorem pd15 : parseMethodDescriptor "(IIILjava/util/function/BiFunction;)I" = some ⟨[.int, .int, .int, (.object "java/util/function/BiFunction")], some .int⟩ := by decide +kernel
theorem pd16 : parseMethodDescriptor "(III)I" = some ⟨[.int, .int, .int], some .int⟩ := by decide +kernel
theorem pd17 : parseMethodDescriptor "(II[B)V" = some ⟨[.int, .int, (.array .byte)], none⟩ := by decide +kernel
theorem pd18 : parseMethodDescriptor "([BI[BII)V" = some ⟨[(.array .byte), .int, (.array .byte), .int, .int], none⟩ := by decide +kernel
theorem pd19 : parseMethodDescriptor "()V" = some ⟨[], none⟩ := by decide +kernel
theorem pd20 : parseMethodDescriptor "(Ljava/lang/String;)V" = some ⟨[(.object "java/lang/String")], none⟩ := by decide +kernel
theorem pd21 : parseMethodDescriptor "([BIB)V" = some ⟨[(.array .byte), .int, .byte], none⟩ := by decide +kernel
theorem pd22 : parseMethodDescriptor "()I" = some ⟨[], some .int⟩ := by decide +kernel
theorem pd23 : parseMethodDescriptor "(ILjava/lang/String;)V" = some ⟨[.int, (.object "java/lang/String")], none⟩ := by decide +kernel
theorem pd24 : parseMethodDescriptor "()Ljava/lang/AbstractStringBuilder;" = some ⟨[], some (.object "java/lang/AbstractStringBuilder")⟩ := by decide +kernel
theorem pd25 : parseMethodDescriptor "(Ljava/lang/String;)Ljava/lang/AbstractStringBuilder;" = some ⟨[(.object "java/lang/String")], some (.object "java/lang/AbstractStringBuilder")⟩ := by decide +kernel
theorem pd26 : parseMethodDescriptor "(II)I" = some ⟨[.int, .int], some .int⟩ := by decide +kernel
theorem pd27 : parseMethodDescriptor "([BII)[B" = some ⟨[(.array .byte), .int, .int], some (.array .byte)⟩ := by decide +kernel
theorem pd28 : parseMethodDescriptor "()[B" = some ⟨[], some (.array .byte)⟩ := by decide +kernel
theorem pd29 : parseMethodDescriptor "(Ljava/lang/AbstractStringBuilder;Ljava/lang/Void;)V" = some ⟨[(.object "java/lang/AbstractStringBuilder"), (.object "java/lang/Void")], none⟩ := by decide +kernel
theorem pd30 : parseMethodDescriptor "(Ljava/lang/StringBuilder;)V" = some ⟨[(.object "java/lang/StringBuilder")], none⟩ := by decide +kernel
theorem pd31 : parseMethodDescriptor "(Ljava/lang/String;)Ljava/lang/StringBuilder;" = some ⟨[(.object "java/lang/String")], some (.object "java/lang/StringBuilder")⟩ := by decide +kernel
theorem pd32 : parseMethodDescriptor "()Ljava/lang/String;" = some ⟨[], some (.object "java/lang/String")⟩ := by decide +kernel
theorem pd33 : parseMethodDescriptor "(I)C" = some ⟨[.int], some .char⟩ := by decide +kernel
theorem pd34 : parseMethodDescriptor "([C)V" = some ⟨[(.array .char)], none⟩ := by decide +kernel
theorem pd35 : parseMethodDescriptor "(Ljava/lang/String;)Lcom/example/sieve_for_sparql/sieveforsparql/InputException;" = some ⟨[(.object "java/lang/String")], some (.object "com/example/sieve_for_sparql/sieveforsparql/InputException")⟩ := by decide +kernel
theorem dcmp5_0 : decode jdk_52_method_21_code 0 = .ok (.iconst 0, 1) := by decide +kernel
theorem dcmp5_1 : decode jdk_52_method_21_code 1 = .ok (.istore 5, 2) := by decide +kernel
theorem dcmp5_3 : decode jdk_52_method_21_code 3 = .ok (.iload 5, 2) := by decide +kernel
theorem dcmp5_5 : decode jdk_52_method_21_code 5 = .ok (.iload 4, 2) := by decide +kernel
theorem dcmp5_7 : decode jdk_52_method_21_code 7 = .ok (.if_icmp .ge 37, 3) := by decide +kernel
theorem dcmp5_10 : decode jdk_52_method_21_code 10 = .ok (.aload_n 0, 1) := by decide +kernel
theorem dcmp5_11 : decode jdk_52_method_21_code 11 = .ok (.iload_n 1, 1) := by decide +kernel
theorem dcmp5_12 : decode jdk_52_method_21_code 12 = .ok (.caload, 1) := by decide +kernel
theorem dcmp5_13 : decode jdk_52_method_21_code 13 = .ok (.istore 6, 2) := by decide +kernel
theorem dcmp5_15 : decode jdk_52_method_21_code 15 = .ok (.iload 6, 2) := by decide +kernel
theorem dcmp5_17 : decode jdk_52_method_21_code 17 = .ok (.sipush 255, 3) := by decide +kernel
theorem dcmp5_20 : decode jdk_52_method_21_code 20 = .ok (.if_icmp .le 6, 3) := by decide +kernel
theorem dcmp5_23 : decode jdk_52_method_21_code 23 = .ok (.iload 5, 2) := by decide +kernel
theorem dcmp5_25 : decode jdk_52_method_21_code 25 = .ok (.ireturn, 1) := by decide +kernel
theorem dcmp5_26 : decode jdk_52_method_21_code 26 = .ok (.aload_n 2, 1) := by decide +kernel
theorem dcmp5_27 : decode jdk_52_method_21_code 27 = .ok (.iload_n 3, 1) := by decide +kernel
theorem dcmp5_28 : decode jdk_52_method_21_code 28 = .ok (.iload 6, 2) := by decide +kernel
theorem dcmp5_30 : decode jdk_52_method_21_code 30 = .ok (.i2b, 1) := by decide +kernel
theorem dcmp5_31 : decode jdk_52_method_21_code 31 = .ok (.bastore, 1) := by decide +kernel
theorem dcmp5_32 : decode jdk_52_method_21_code 32 = .ok (.iinc 1 1, 3) := by decide +kernel
theorem dcmp5_35 : decode jdk_52_method_21_code 35 = .ok (.iinc 3 1, 3) := by decide +kernel
theorem dcmp5_38 : decode jdk_52_method_21_code 38 = .ok (.iinc 5 1, 3) := by decide +kernel
theorem dcmp5_41 : decode jdk_52_method_21_code 41 = .ok (.goto (-38), 3) := by decide +kernel
theorem dcmp5_44 : decode jdk_52_method_21_code 44 = .ok (.iload 4, 2) := by decide +kernel
theorem dcmp5_46 : decode jdk_52_method_21_code 46 = .ok (.ireturn, 1) := by decide +kernel
abbrev bcmp5 : wkB := (⟨"java/lang/StringUTF16", "compress", "([CI[BII)I"⟩, jdk_52_method_21_code, 7, (some .int))
theorem dcodL_0 : decode jdk_52_method_15_code 0 = .ok (.iload_n 1, 1) := by decide +kernel
theorem dcodL_1 : decode jdk_52_method_15_code 1 = .ok (.aload_n 0, 1) := by decide +kernel
theorem dcodL_2 : decode jdk_52_method_15_code 2 = .ok (.arraylength, 1) := by decide +kernel
theorem dcodL_3 : decode jdk_52_method_15_code 3 = .ok (.isub, 1) := by decide +kernel
theorem dcodL_4 : decode jdk_52_method_15_code 4 = .ok (.bipush 31, 2) := by decide +kernel
theorem dcodL_6 : decode jdk_52_method_15_code 6 = .ok (.iushr, 1) := by decide +kernel
theorem dcodL_7 : decode jdk_52_method_15_code 7 = .ok (.i2b, 1) := by decide +kernel
theorem dcodL_8 : decode jdk_52_method_15_code 8 = .ok (.ireturn, 1) := by decide +kernel
abbrev bcodL : wkB := (⟨"java/lang/StringUTF16", "coderFromArrayLen", "([BI)B"⟩, jdk_52_method_15_code, 2, (some .byte))
theorem dnbl_0 : decode jdk_52_method_3_code 0 = .ok (.iload_n 0, 1) := by decide +kernel
theorem dnbl_1 : decode jdk_52_method_3_code 1 = .ok (.ifCond .ge 11, 3) := by decide +kernel
theorem dnbl_12 : decode jdk_52_method_3_code 12 = .ok (.iload_n 0, 1) := by decide +kernel
theorem dnbl_13 : decode jdk_52_method_3_code 13 = .ok (.ldc 20, 2) := by decide +kernel
theorem dnbl_15 : decode jdk_52_method_3_code 15 = .ok (.if_icmp .lt 40, 3) := by decide +kernel
theorem dnbl_55 : decode jdk_52_method_3_code 55 = .ok (.iload_n 0, 1) := by decide +kernel
theorem dnbl_56 : decode jdk_52_method_3_code 56 = .ok (.iconst 1, 1) := by decide +kernel
theorem dnbl_57 : decode jdk_52_method_3_code 57 = .ok (.ishl, 1) := by decide +kernel
theorem dnbl_58 : decode jdk_52_method_3_code 58 = .ok (.ireturn, 1) := by decide +kernel
abbrev bnbl : wkB := (⟨"java/lang/StringUTF16", "newBytesLength", "(I)I"⟩, jdk_52_method_3_code, 1, (some .int))
theorem dnbf_0 : decode jdk_52_method_2_code 0 = .ok (.iload_n 0, 1) := by decide +kernel
theorem dnbf_1 : decode jdk_52_method_2_code 1 = .ok (.invokestatic 11, 3) := by decide +kernel
theorem dnbf_4 : decode jdk_52_method_2_code 4 = .ok (.newarray .byte, 2) := by decide +kernel
theorem dnbf_6 : decode jdk_52_method_2_code 6 = .ok (.areturn, 1) := by decide +kernel
abbrev bnbf : wkB := (⟨"java/lang/StringUTF16", "newBytesFor", "(I)[B"⟩, jdk_52_method_2_code, 1, (some (.array .byte)))
theorem dulen_0 : decode jdk_52_method_6_code 0 = .ok (.aload_n 0, 1) := by decide +kernel
theorem dulen_1 : decode jdk_52_method_6_code 1 = .ok (.arraylength, 1) := by decide +kernel
theorem dulen_2 : decode jdk_52_method_6_code 2 = .ok (.iconst 1, 1) := by decide +kernel
theorem dulen_3 : decode jdk_52_method_6_code 3 = .ok (.ishr, 1) := by decide +kernel
theorem dulen_4 : decode jdk_52_method_6_code 4 = .ok (.ireturn, 1) := by decide +kernel
abbrev bulen : wkB := (⟨"java/lang/StringUTF16", "length", "([B)I"⟩, jdk_52_method_6_code, 1, (some .int))
theorem dputC_0 : decode jdk_52_method_4_code 0 = .ok (.getstatic 44, 3) := by decide +kernel
theorem dputC_3 : decode jdk_52_method_4_code 3 = .ok (.ifCond .ne 25, 3) := by decide +kernel
theorem dputC_28 : decode jdk_52_method_4_code 28 = .ok (.iload_n 1, 1) := by decide +kernel
theorem dputC_29 : decode jdk_52_method_4_code 29 = .ok (.iconst 1, 1) := by decide +kernel
theorem dputC_30 : decode jdk_52_method_4_code 30 = .ok (.ishl, 1) := by decide +kernel
theorem dputC_31 : decode jdk_52_method_4_code 31 = .ok (.istore_n 1, 1) := by decide +kernel
theorem dputC_32 : decode jdk_52_method_4_code 32 = .ok (.aload_n 0, 1) := by decide +kernel
theorem dputC_33 : decode jdk_52_method_4_code 33 = .ok (.iload_n 1, 1) := by decide +kernel
theorem dputC_34 : decode jdk_52_method_4_code 34 = .ok (.iinc 1 1, 3) := by decide +kernel
theorem dputC_37 : decode jdk_52_method_4_code 37 = .ok (.iload_n 2, 1) := by decide +kernel
theorem dputC_38 : decode jdk_52_method_4_code 38 = .ok (.getstatic 59, 3) := by decide +kernel
theorem dputC_41 : decode jdk_52_method_4_code 41 = .ok (.ishr, 1) := by decide +kernel
theorem dputC_42 : decode jdk_52_method_4_code 42 = .ok (.i2b, 1) := by decide +kernel
theorem dputC_43 : decode jdk_52_method_4_code 43 = .ok (.bastore, 1) := by decide +kernel
theorem dputC_44 : decode jdk_52_method_4_code 44 = .ok (.aload_n 0, 1) := by decide +kernel
theorem dputC_45 : decode jdk_52_method_4_code 45 = .ok (.iload_n 1, 1) := by decide +kernel
theorem dputC_46 : decode jdk_52_method_4_code 46 = .ok (.iload_n 2, 1) := by decide +kernel
theorem dputC_47 : decode jdk_52_method_4_code 47 = .ok (.getstatic 63, 3) := by decide +kernel
theorem dputC_50 : decode jdk_52_method_4_code 50 = .ok (.ishr, 1) := by decide +kernel
theorem dputC_51 : decode jdk_52_method_4_code 51 = .ok (.i2b, 1) := by decide +kernel
theorem dputC_52 : decode jdk_52_method_4_code 52 = .ok (.bastore, 1) := by decide +kernel
theorem dputC_53 : decode jdk_52_method_4_code 53 = .ok (.return_, 1) := by decide +kernel
abbrev bputC : wkB := (⟨"java/lang/StringUTF16", "putChar", "([BII)V"⟩, jdk_52_method_4_code, 3, none)
theorem dgetC_0 : decode jdk_52_method_5_code 0 = .ok (.getstatic 44, 3) := by decide +kernel
theorem dgetC_3 : decode jdk_52_method_5_code 3 = .ok (.ifCond .ne 25, 3) := by decide +kernel
theorem dgetC_28 : decode jdk_52_method_5_code 28 = .ok (.iload_n 1, 1) := by decide +kernel
theorem dgetC_29 : decode jdk_52_method_5_code 29 = .ok (.iconst 1, 1) := by decide +kernel
theorem dgetC_30 : decode jdk_52_method_5_code 30 = .ok (.ishl, 1) := by decide +kernel
theorem dgetC_31 : decode jdk_52_method_5_code 31 = .ok (.istore_n 1, 1) := by decide +kernel
theorem dgetC_32 : decode jdk_52_method_5_code 32 = .ok (.aload_n 0, 1) := by decide +kernel
theorem dgetC_33 : decode jdk_52_method_5_code 33 = .ok (.iload_n 1, 1) := by decide +kernel
theorem dgetC_34 : decode jdk_52_method_5_code 34 = .ok (.iinc 1 1, 3) := by decide +kernel
theorem dgetC_37 : decode jdk_52_method_5_code 37 = .ok (.baload, 1) := by decide +kernel
theorem dgetC_38 : decode jdk_52_method_5_code 38 = .ok (.sipush 255, 3) := by decide +kernel
theorem dgetC_41 : decode jdk_52_method_5_code 41 = .ok (.iand, 1) := by decide +kernel
theorem dgetC_42 : decode jdk_52_method_5_code 42 = .ok (.getstatic 59, 3) := by decide +kernel
theorem dgetC_45 : decode jdk_52_method_5_code 45 = .ok (.ishl, 1) := by decide +kernel
theorem dgetC_46 : decode jdk_52_method_5_code 46 = .ok (.aload_n 0, 1) := by decide +kernel
theorem dgetC_47 : decode jdk_52_method_5_code 47 = .ok (.iload_n 1, 1) := by decide +kernel
theorem dgetC_48 : decode jdk_52_method_5_code 48 = .ok (.baload, 1) := by decide +kernel
theorem dgetC_49 : decode jdk_52_method_5_code 49 = .ok (.sipush 255, 3) := by decide +kernel
theorem dgetC_52 : decode jdk_52_method_5_code 52 = .ok (.iand, 1) := by decide +kernel
theorem dgetC_53 : decode jdk_52_method_5_code 53 = .ok (.getstatic 63, 3) := by decide +kernel
theorem dgetC_56 : decode jdk_52_method_5_code 56 = .ok (.ishl, 1) := by decide +kernel
theorem dgetC_57 : decode jdk_52_method_5_code 57 = .ok (.ior, 1) := by decide +kernel
theorem dgetC_58 : decode jdk_52_method_5_code 58 = .ok (.i2c, 1) := by decide +kernel
theorem dgetC_59 : decode jdk_52_method_5_code 59 = .ok (.ireturn, 1) := by decide +kernel
abbrev bgetC : wkB := (⟨"java/lang/StringUTF16", "getChar", "([BI)C"⟩, jdk_52_method_5_code, 2, (some .char))
theorem dtoBy_0 : decode jdk_52_method_14_code 0 = .ok (.iload_n 2, 1) := by decide +kernel
theorem dtoBy_1 : decode jdk_52_method_14_code 1 = .ok (.invokestatic 107, 3) := by decide +kernel
theorem dtoBy_4 : decode jdk_52_method_14_code 4 = .ok (.astore_n 3, 1) := by decide +kernel
theorem dtoBy_5 : decode jdk_52_method_14_code 5 = .ok (.iconst 0, 1) := by decide +kernel
theorem dtoBy_6 : decode jdk_52_method_14_code 6 = .ok (.istore 4, 2) := by decide +kernel
theorem dtoBy_8 : decode jdk_52_method_14_code 8 = .ok (.iload 4, 2) := by decide +kernel
theorem dtoBy_10 : decode jdk_52_method_14_code 10 = .ok (.iload_n 2, 1) := by decide +kernel
theorem dtoBy_11 : decode jdk_52_method_14_code 11 = .ok (.if_icmp .ge 21, 3) := by decide +kernel
theorem dtoBy_14 : decode jdk_52_method_14_code 14 = .ok (.aload_n 3, 1) := by decide +kernel
theorem dtoBy_15 : decode jdk_52_method_14_code 15 = .ok (.iload 4, 2) := by decide +kernel
theorem dtoBy_17 : decode jdk_52_method_14_code 17 = .ok (.aload_n 0, 1) := by decide +kernel
theorem dtoBy_18 : decode jdk_52_method_14_code 18 = .ok (.iload_n 1, 1) := by decide +kernel
theorem dtoBy_19 : decode jdk_52_method_14_code 19 = .ok (.caload, 1) := by decide +kernel
theorem dtoBy_20 : decode jdk_52_method_14_code 20 = .ok (.invokestatic 111, 3) := by decide +kernel
theorem dtoBy_23 : decode jdk_52_method_14_code 23 = .ok (.iinc 1 1, 3) := by decide +kernel
theorem dtoBy_26 : decode jdk_52_method_14_code 26 = .ok (.iinc 4 1, 3) := by decide +kernel
theorem dtoBy_29 : decode jdk_52_method_14_code 29 = .ok (.goto (-21), 3) := by decide +kernel
theorem dtoBy_32 : decode jdk_52_method_14_code 32 = .ok (.aload_n 3, 1) := by decide +kernel
theorem dtoBy_33 : decode jdk_52_method_14_code 33 = .ok (.areturn, 1) := by decide +kernel
abbrev btoBy : wkB := (⟨"java/lang/StringUTF16", "toBytes", "([CII)[B"⟩, jdk_52_method_14_code, 5, (some (.array .byte)))
theorem dcmp3_0 : decode jdk_52_method_16_code 0 = .ok (.iload_n 2, 1) := by decide +kernel
theorem dcmp3_1 : decode jdk_52_method_16_code 1 = .ok (.newarray .byte, 2) := by decide +kernel
theorem dcmp3_3 : decode jdk_52_method_16_code 3 = .ok (.astore_n 3, 1) := by decide +kernel
theorem dcmp3_4 : decode jdk_52_method_16_code 4 = .ok (.aload_n 0, 1) := by decide +kernel
theorem dcmp3_5 : decode jdk_52_method_16_code 5 = .ok (.iload_n 1, 1) := by decide +kernel
theorem dcmp3_6 : decode jdk_52_method_16_code 6 = .ok (.aload_n 3, 1) := by decide +kernel
theorem dcmp3_7 : decode jdk_52_method_16_code 7 = .ok (.iconst 0, 1) := by decide +kernel
theorem dcmp3_8 : decode jdk_52_method_16_code 8 = .ok (.iload_n 2, 1) := by decide +kernel
theorem dcmp3_9 : decode jdk_52_method_16_code 9 = .ok (.invokestatic 115, 3) := by decide +kernel
theorem dcmp3_12 : decode jdk_52_method_16_code 12 = .ok (.istore 4, 2) := by decide +kernel
theorem dcmp3_14 : decode jdk_52_method_16_code 14 = .ok (.iload 4, 2) := by decide +kernel
theorem dcmp3_16 : decode jdk_52_method_16_code 16 = .ok (.iload_n 2, 1) := by decide +kernel
theorem dcmp3_17 : decode jdk_52_method_16_code 17 = .ok (.if_icmp .eq 40, 3) := by decide +kernel
theorem dcmp3_20 : decode jdk_52_method_16_code 20 = .ok (.aload_n 0, 1) := by decide +kernel
theorem dcmp3_21 : decode jdk_52_method_16_code 21 = .ok (.iload_n 1, 1) := by decide +kernel
theorem dcmp3_22 : decode jdk_52_method_16_code 22 = .ok (.iload_n 2, 1) := by decide +kernel
theorem dcmp3_23 : decode jdk_52_method_16_code 23 = .ok (.invokestatic 119, 3) := by decide +kernel
theorem dcmp3_26 : decode jdk_52_method_16_code 26 = .ok (.astore 5, 2) := by decide +kernel
theorem dcmp3_28 : decode jdk_52_method_16_code 28 = .ok (.aload 5, 2) := by decide +kernel
theorem dcmp3_30 : decode jdk_52_method_16_code 30 = .ok (.iload 4, 2) := by decide +kernel
theorem dcmp3_32 : decode jdk_52_method_16_code 32 = .ok (.invokestatic 71, 3) := by decide +kernel
theorem dcmp3_35 : decode jdk_52_method_16_code 35 = .ok (.sipush 255, 3) := by decide +kernel
theorem dcmp3_38 : decode jdk_52_method_16_code 38 = .ok (.if_icmp .gt 16, 3) := by decide +kernel
theorem dcmp3_54 : decode jdk_52_method_16_code 54 = .ok (.aload 5, 2) := by decide +kernel
theorem dcmp3_56 : decode jdk_52_method_16_code 56 = .ok (.areturn, 1) := by decide +kernel
theorem dcmp3_57 : decode jdk_52_method_16_code 57 = .ok (.aload_n 3, 1) := by decide +kernel
theorem dcmp3_58 : decode jdk_52_method_16_code 58 = .ok (.areturn, 1) := by decide +kernel
abbrev bcmp3 : wkB := (⟨"java/lang/StringUTF16", "compress", "([CII)[B"⟩, jdk_52_method_16_code, 6, (some (.array .byte)))
theorem dinit4_0 : decode jdk_42_method_149_code 0 = .ok (.aload_n 0, 1) := by decide +kernel
theorem dinit4_1 : decode jdk_42_method_149_code 1 = .ok (.invokespecial 1, 3) := by decide +kernel
theorem dinit4_4 : decode jdk_42_method_149_code 4 = .ok (.iload_n 3, 1) := by decide +kernel
theorem dinit4_5 : decode jdk_42_method_149_code 5 = .ok (.ifCond .ne 22, 3) := by decide +kernel
theorem dinit4_8 : decode jdk_42_method_149_code 8 = .ok (.aload_n 0, 1) := by decide +kernel
theorem dinit4_9 : decode jdk_42_method_149_code 9 = .ok (.ldc 7, 2) := by decide +kernel
theorem dinit4_11 : decode jdk_42_method_149_code 11 = .ok (.getfield 9, 3) := by decide +kernel
theorem dinit4_14 : decode jdk_42_method_149_code 14 = .ok (.putfield 9, 3) := by decide +kernel
theorem dinit4_17 : decode jdk_42_method_149_code 17 = .ok (.aload_n 0, 1) := by decide +kernel
theorem dinit4_18 : decode jdk_42_method_149_code 18 = .ok (.ldc 7, 2) := by decide +kernel
theorem dinit4_20 : decode jdk_42_method_149_code 20 = .ok (.getfield 15, 3) := by decide +kernel
theorem dinit4_23 : decode jdk_42_method_149_code 23 = .ok (.putfield 15, 3) := by decide +kernel
theorem dinit4_26 : decode jdk_42_method_149_code 26 = .ok (.return_, 1) := by decide +kernel
theorem dinit4_27 : decode jdk_42_method_149_code 27 = .ok (.getstatic 38, 3) := by decide +kernel
theorem dinit4_30 : decode jdk_42_method_149_code 30 = .ok (.ifCond .eq 28, 3) := by decide +kernel
theorem dinit4_33 : decode jdk_42_method_149_code 33 = .ok (.aload_n 1, 1) := by decide +kernel
theorem dinit4_34 : decode jdk_42_method_149_code 34 = .ok (.iload_n 2, 1) := by decide +kernel
theorem dinit4_35 : decode jdk_42_method_149_code 35 = .ok (.iload_n 3, 1) := by decide +kernel
theorem dinit4_36 : decode jdk_42_method_149_code 36 = .ok (.invokestatic 177, 3) := by decide +kernel
theorem dinit4_39 : decode jdk_42_method_149_code 39 = .ok (.astore 5, 2) := by decide +kernel
theorem dinit4_41 : decode jdk_42_method_149_code 41 = .ok (.aload_n 0, 1) := by decide +kernel
theorem dinit4_42 : decode jdk_42_method_149_code 42 = .ok (.aload 5, 2) := by decide +kernel
theorem dinit4_44 : decode jdk_42_method_149_code 44 = .ok (.iload_n 3, 1) := by decide +kernel
theorem dinit4_45 : decode jdk_42_method_149_code 45 = .ok (.invokestatic 47, 3) := by decide +kernel
theorem dinit4_48 : decode jdk_42_method_149_code 48 = .ok (.putfield 15, 3) := by decide +kernel
theorem dinit4_51 : decode jdk_42_method_149_code 51 = .ok (.aload_n 0, 1) := by decide +kernel
theorem dinit4_52 : decode jdk_42_method_149_code 52 = .ok (.aload 5, 2) := by decide +kernel
theorem dinit4_54 : decode jdk_42_method_149_code 54 = .ok (.putfield 9, 3) := by decide +kernel
theorem dinit4_57 : decode jdk_42_method_149_code 57 = .ok (.return_, 1) := by decide +kernel
abbrev binit4 : wkB := (⟨"java/lang/String", "<init>", "([CIILjava/lang/Void;)V"⟩, jdk_42_method_149_code, 6, none)
theorem dinit1_0 : decode jdk_42_method_3_code 0 = .ok (.aload_n 0, 1) := by decide +kernel
theorem dinit1_1 : decode jdk_42_method_3_code 1 = .ok (.aload_n 1, 1) := by decide +kernel
theorem dinit1_2 : decode jdk_42_method_3_code 2 = .ok (.iconst 0, 1) := by decide +kernel
theorem dinit1_3 : decode jdk_42_method_3_code 3 = .ok (.aload_n 1, 1) := by decide +kernel
theorem dinit1_4 : decode jdk_42_method_3_code 4 = .ok (.arraylength, 1) := by decide +kernel
theorem dinit1_5 : decode jdk_42_method_3_code 5 = .ok (.aconst_null, 1) := by decide +kernel
theorem dinit1_6 : decode jdk_42_method_3_code 6 = .ok (.invokespecial 27, 3) := by decide +kernel
theorem dinit1_9 : decode jdk_42_method_3_code 9 = .ok (.return_, 1) := by decide +kernel
abbrev binit1 : wkB := (⟨"java/lang/String", "<init>", "([C)V"⟩, jdk_42_method_3_code, 2, none)
theorem dcoder_0 : decode jdk_42_method_152_code 0 = .ok (.getstatic 38, 3) := by decide +kernel
theorem dcoder_3 : decode jdk_42_method_152_code 3 = .ok (.ifCond .eq 10, 3) := by decide +kernel
theorem dcoder_6 : decode jdk_42_method_152_code 6 = .ok (.aload_n 0, 1) := by decide +kernel
theorem dcoder_7 : decode jdk_42_method_152_code 7 = .ok (.getfield 15, 3) := by decide +kernel
theorem dcoder_10 : decode jdk_42_method_152_code 10 = .ok (.goto 4, 3) := by decide +kernel
theorem dcoder_14 : decode jdk_42_method_152_code 14 = .ok (.ireturn, 1) := by decide +kernel
abbrev bcoder : wkB := (⟨"java/lang/String", "coder", "()B"⟩, jdk_42_method_152_code, 1, (some .byte))
theorem disLat_0 : decode jdk_42_method_154_code 0 = .ok (.getstatic 38, 3) := by decide +kernel
theorem disLat_3 : decode jdk_42_method_154_code 3 = .ok (.ifCond .eq 14, 3) := by decide +kernel
theorem disLat_6 : decode jdk_42_method_154_code 6 = .ok (.aload_n 0, 1) := by decide +kernel
theorem disLat_7 : decode jdk_42_method_154_code 7 = .ok (.getfield 15, 3) := by decide +kernel
theorem disLat_10 : decode jdk_42_method_154_code 10 = .ok (.ifCond .ne 7, 3) := by decide +kernel
theorem disLat_13 : decode jdk_42_method_154_code 13 = .ok (.iconst 1, 1) := by decide +kernel
theorem disLat_14 : decode jdk_42_method_154_code 14 = .ok (.goto 4, 3) := by decide +kernel
theorem disLat_17 : decode jdk_42_method_154_code 17 = .ok (.iconst 0, 1) := by decide +kernel
theorem disLat_18 : decode jdk_42_method_154_code 18 = .ok (.ireturn, 1) := by decide +kernel
abbrev bisLat : wkB := (⟨"java/lang/String", "isLatin1", "()Z"⟩, jdk_42_method_154_code, 1, (some .boolean))
theorem dlen_0 : decode jdk_42_method_54_code 0 = .ok (.aload_n 0, 1) := by decide +kernel
theorem dlen_1 : decode jdk_42_method_54_code 1 = .ok (.getfield 9, 3) := by decide +kernel
theorem dlen_4 : decode jdk_42_method_54_code 4 = .ok (.arraylength, 1) := by decide +kernel
theorem dlen_5 : decode jdk_42_method_54_code 5 = .ok (.aload_n 0, 1) := by decide +kernel
theorem dlen_6 : decode jdk_42_method_54_code 6 = .ok (.invokevirtual 335, 3) := by decide +kernel
theorem dlen_9 : decode jdk_42_method_54_code 9 = .ok (.ishr, 1) := by decide +kernel
theorem dlen_10 : decode jdk_42_method_54_code 10 = .ok (.ireturn, 1) := by decide +kernel
abbrev blen : wkB := (⟨"java/lang/String", "length", "()I"⟩, jdk_42_method_54_code, 1, (some .int))
theorem dpchk_0 : decode jdk_41_method_11_code 0 = .ok (.iload_n 0, 1) := by decide +kernel
theorem dpchk_1 : decode jdk_41_method_11_code 1 = .ok (.ifCond .lt 8, 3) := by decide +kernel
theorem dpchk_4 : decode jdk_41_method_11_code 4 = .ok (.iload_n 0, 1) := by decide +kernel
theorem dpchk_5 : decode jdk_41_method_11_code 5 = .ok (.iload_n 1, 1) := by decide +kernel
theorem dpchk_6 : decode jdk_41_method_11_code 6 = .ok (.if_icmp .lt 10, 3) := by decide +kernel
theorem dpchk_16 : decode jdk_41_method_11_code 16 = .ok (.iload_n 0, 1) := by decide +kernel
theorem dpchk_17 : decode jdk_41_method_11_code 17 = .ok (.ireturn, 1) := by decide +kernel
abbrev bpchk : wkB := (⟨"jdk/internal/util/Preconditions", "checkIndex", "(IILjava/util/function/BiFunction;)I"⟩, jdk_41_method_11_code, 3, (some .int))
theorem dschk_0 : decode jdk_42_method_155_code 0 = .ok (.iload_n 0, 1) := by decide +kernel
theorem dschk_1 : decode jdk_42_method_155_code 1 = .ok (.iload_n 1, 1) := by decide +kernel
theorem dschk_2 : decode jdk_42_method_155_code 2 = .ok (.getstatic 1053, 3) := by decide +kernel
theorem dschk_5 : decode jdk_42_method_155_code 5 = .ok (.invokestatic 1059, 3) := by decide +kernel
theorem dschk_8 : decode jdk_42_method_155_code 8 = .ok (.pop, 1) := by decide +kernel
theorem dschk_9 : decode jdk_42_method_155_code 9 = .ok (.return_, 1) := by decide +kernel
abbrev bschk : wkB := (⟨"java/lang/String", "checkIndex", "(II)V"⟩, jdk_42_method_155_code, 2, none)
theorem duchk_0 : decode jdk_52_method_91_code 0 = .ok (.iload_n 0, 1) := by decide +kernel
theorem duchk_1 : decode jdk_52_method_91_code 1 = .ok (.aload_n 1, 1) := by decide +kernel
theorem duchk_2 : decode jdk_52_method_91_code 2 = .ok (.invokestatic 48, 3) := by decide +kernel
theorem duchk_5 : decode jdk_52_method_91_code 5 = .ok (.invokestatic 414, 3) := by decide +kernel
theorem duchk_8 : decode jdk_52_method_91_code 8 = .ok (.return_, 1) := by decide +kernel
abbrev buchk : wkB := (⟨"java/lang/StringUTF16", "checkIndex", "(I[B)V"⟩, jdk_52_method_91_code, 2, none)
theorem dlch_0 : decode jdk_43_method_2_code 0 = .ok (.iload_n 1, 1) := by decide +kernel
theorem dlch_1 : decode jdk_43_method_2_code 1 = .ok (.aload_n 0, 1) := by decide +kernel
theorem dlch_2 : decode jdk_43_method_2_code 2 = .ok (.arraylength, 1) := by decide +kernel
theorem dlch_3 : decode jdk_43_method_2_code 3 = .ok (.invokestatic 9, 3) := by decide +kernel
theorem dlch_6 : decode jdk_43_method_2_code 6 = .ok (.aload_n 0, 1) := by decide +kernel
theorem dlch_7 : decode jdk_43_method_2_code 7 = .ok (.iload_n 1, 1) := by decide +kernel
theorem dlch_8 : decode jdk_43_method_2_code 8 = .ok (.baload, 1) := by decide +kernel
theorem dlch_9 : decode jdk_43_method_2_code 9 = .ok (.sipush 255, 3) := by decide +kernel
theorem dlch_12 : decode jdk_43_method_2_code 12 = .ok (.iand, 1) := by decide +kernel
theorem dlch_13 : decode jdk_43_method_2_code 13 = .ok (.i2c, 1) := by decide +kernel
theorem dlch_14 : decode jdk_43_method_2_code 14 = .ok (.ireturn, 1) := by decide +kernel
abbrev blch : wkB := (⟨"java/lang/StringLatin1", "charAt", "([BI)C"⟩, jdk_43_method_2_code, 2, (some .char))
theorem duch_0 : decode jdk_52_method_83_code 0 = .ok (.iload_n 1, 1) := by decide +kernel
theorem duch_1 : decode jdk_52_method_83_code 1 = .ok (.aload_n 0, 1) := by decide +kernel
theorem duch_2 : decode jdk_52_method_83_code 2 = .ok (.invokestatic 67, 3) := by decide +kernel
theorem duch_5 : decode jdk_52_method_83_code 5 = .ok (.aload_n 0, 1) := by decide +kernel
theorem duch_6 : decode jdk_52_method_83_code 6 = .ok (.iload_n 1, 1) := by decide +kernel
theorem duch_7 : decode jdk_52_method_83_code 7 = .ok (.invokestatic 71, 3) := by decide +kernel
theorem duch_10 : decode jdk_52_method_83_code 10 = .ok (.ireturn, 1) := by decide +kernel
abbrev buch : wkB := (⟨"java/lang/StringUTF16", "charAt", "([BI)C"⟩, jdk_52_method_83_code, 2, (some .char))
theorem dchAt_0 : decode jdk_42_method_56_code 0 = .ok (.aload_n 0, 1) := by decide +kernel
theorem dchAt_1 : decode jdk_42_method_56_code 1 = .ok (.invokevirtual 492, 3) := by decide +kernel
theorem dchAt_4 : decode jdk_42_method_56_code 4 = .ok (.ifCond .eq 12, 3) := by decide +kernel
theorem dchAt_7 : decode jdk_42_method_56_code 7 = .ok (.aload_n 0, 1) := by decide +kernel
theorem dchAt_8 : decode jdk_42_method_56_code 8 = .ok (.getfield 9, 3) := by decide +kernel
theorem dchAt_11 : decode jdk_42_method_56_code 11 = .ok (.iload_n 1, 1) := by decide +kernel
theorem dchAt_12 : decode jdk_42_method_56_code 12 = .ok (.invokestatic 495, 3) := by decide +kernel
theorem dchAt_15 : decode jdk_42_method_56_code 15 = .ok (.ireturn, 1) := by decide +kernel
theorem dchAt_16 : decode jdk_42_method_56_code 16 = .ok (.aload_n 0, 1) := by decide +kernel
theorem dchAt_17 : decode jdk_42_method_56_code 17 = .ok (.getfield 9, 3) := by decide +kernel
theorem dchAt_20 : decode jdk_42_method_56_code 20 = .ok (.iload_n 1, 1) := by decide +kernel
theorem dchAt_21 : decode jdk_42_method_56_code 21 = .ok (.invokestatic 498, 3) := by decide +kernel
theorem dchAt_24 : decode jdk_42_method_56_code 24 = .ok (.ireturn, 1) := by decide +kernel
abbrev bchAt : wkB := (⟨"java/lang/String", "charAt", "(I)C"⟩, jdk_42_method_56_code, 2, (some .char))
theorem dasbI_0 : decode jdk_68_method_2_code 0 = .ok (.aload_n 0, 1) := by decide +kernel
theorem dasbI_1 : decode jdk_68_method_2_code 1 = .ok (.invokespecial 3, 3) := by decide +kernel
theorem dasbI_4 : decode jdk_68_method_2_code 4 = .ok (.getstatic 18, 3) := by decide +kernel
theorem dasbI_7 : decode jdk_68_method_2_code 7 = .ok (.ifCond .eq 18, 3) := by decide +kernel
theorem dasbI_10 : decode jdk_68_method_2_code 10 = .ok (.aload_n 0, 1) := by decide +kernel
theorem dasbI_11 : decode jdk_68_method_2_code 11 = .ok (.iload_n 1, 1) := by decide +kernel
theorem dasbI_12 : decode jdk_68_method_2_code 12 = .ok (.newarray .byte, 2) := by decide +kernel
theorem dasbI_14 : decode jdk_68_method_2_code 14 = .ok (.putfield 15, 3) := by decide +kernel
theorem dasbI_17 : decode jdk_68_method_2_code 17 = .ok (.aload_n 0, 1) := by decide +kernel
theorem dasbI_18 : decode jdk_68_method_2_code 18 = .ok (.iconst 0, 1) := by decide +kernel
theorem dasbI_19 : decode jdk_68_method_2_code 19 = .ok (.putfield 22, 3) := by decide +kernel
theorem dasbI_22 : decode jdk_68_method_2_code 22 = .ok (.goto 16, 3) := by decide +kernel
theorem dasbI_38 : decode jdk_68_method_2_code 38 = .ok (.return_, 1) := by decide +kernel
abbrev basbI : wkB := (⟨"java/lang/AbstractStringBuilder", "<init>", "(I)V"⟩, jdk_68_method_2_code, 2, none)
theorem dsbI_0 : decode jdk_67_method_1_code 0 = .ok (.aload_n 0, 1) := by decide +kernel
theorem dsbI_1 : decode jdk_67_method_1_code 1 = .ok (.bipush 16, 2) := by decide +kernel
theorem dsbI_3 : decode jdk_67_method_1_code 3 = .ok (.invokespecial 1, 3) := by decide +kernel
theorem dsbI_6 : decode jdk_67_method_1_code 6 = .ok (.return_, 1) := by decide +kernel
abbrev bsbI : wkB := (⟨"java/lang/StringBuilder", "<init>", "()V"⟩, jdk_67_method_1_code, 1, none)
theorem dsbL_0 : decode jdk_68_method_68_code 0 = .ok (.getstatic 18, 3) := by decide +kernel
theorem dsbL_3 : decode jdk_68_method_68_code 3 = .ok (.ifCond .eq 14, 3) := by decide +kernel
theorem dsbL_6 : decode jdk_68_method_68_code 6 = .ok (.aload_n 0, 1) := by decide +kernel
theorem dsbL_7 : decode jdk_68_method_68_code 7 = .ok (.getfield 22, 3) := by decide +kernel
theorem dsbL_10 : decode jdk_68_method_68_code 10 = .ok (.ifCond .ne 7, 3) := by decide +kernel
theorem dsbL_13 : decode jdk_68_method_68_code 13 = .ok (.iconst 1, 1) := by decide +kernel
theorem dsbL_14 : decode jdk_68_method_68_code 14 = .ok (.goto 4, 3) := by decide +kernel
theorem dsbL_17 : decode jdk_68_method_68_code 17 = .ok (.iconst 0, 1) := by decide +kernel
theorem dsbL_18 : decode jdk_68_method_68_code 18 = .ok (.ireturn, 1) := by decide +kernel
abbrev bsbL : wkB := (⟨"java/lang/AbstractStringBuilder", "isLatin1", "()Z"⟩, jdk_68_method_68_code, 1, (some .boolean))
theorem dens_0 : decode jdk_68_method_9_code 0 = .ok (.aload_n 0, 1) := by decide +kernel
theorem dens_1 : decode jdk_68_method_9_code 1 = .ok (.getfield 15, 3) := by decide +kernel
theorem dens_4 : decode jdk_68_method_9_code 4 = .ok (.arraylength, 1) := by decide +kernel
theorem dens_5 : decode jdk_68_method_9_code 5 = .ok (.aload_n 0, 1) := by decide +kernel
theorem dens_6 : decode jdk_68_method_9_code 6 = .ok (.getfield 22, 3) := by decide +kernel
theorem dens_9 : decode jdk_68_method_9_code 9 = .ok (.ishr, 1) := by decide +kernel
theorem dens_10 : decode jdk_68_method_9_code 10 = .ok (.istore_n 2, 1) := by decide +kernel
theorem dens_11 : decode jdk_68_method_9_code 11 = .ok (.iload_n 1, 1) := by decide +kernel
theorem dens_12 : decode jdk_68_method_9_code 12 = .ok (.iload_n 2, 1) := by decide +kernel
theorem dens_13 : decode jdk_68_method_9_code 13 = .ok (.isub, 1) := by decide +kernel
theorem dens_14 : decode jdk_68_method_9_code 14 = .ok (.ifCond .le 24, 3) := by decide +kernel
theorem dens_38 : decode jdk_68_method_9_code 38 = .ok (.return_, 1) := by decide +kernel
abbrev bens : wkB := (⟨"java/lang/AbstractStringBuilder", "ensureCapacityInternal", "(I)V"⟩, jdk_68_method_9_code, 3, none)
theorem dcfi_0 : decode jdk_41_method_13_code 0 = .ok (.iload_n 2, 1) := by decide +kernel
theorem dcfi_1 : decode jdk_41_method_13_code 1 = .ok (.iload_n 0, 1) := by decide +kernel
theorem dcfi_2 : decode jdk_41_method_13_code 2 = .ok (.ior, 1) := by decide +kernel
theorem dcfi_3 : decode jdk_41_method_13_code 3 = .ok (.iload_n 1, 1) := by decide +kernel
theorem dcfi_4 : decode jdk_41_method_13_code 4 = .ok (.ior, 1) := by decide +kernel
theorem dcfi_5 : decode jdk_41_method_13_code 5 = .ok (.ifCond .lt 10, 3) := by decide +kernel
theorem dcfi_8 : decode jdk_41_method_13_code 8 = .ok (.iload_n 1, 1) := by decide +kernel
theorem dcfi_9 : decode jdk_41_method_13_code 9 = .ok (.iload_n 2, 1) := by decide +kernel
theorem dcfi_10 : decode jdk_41_method_13_code 10 = .ok (.iload_n 0, 1) := by decide +kernel
theorem dcfi_11 : decode jdk_41_method_13_code 11 = .ok (.isub, 1) := by decide +kernel
theorem dcfi_12 : decode jdk_41_method_13_code 12 = .ok (.if_icmp .le 11, 3) := by decide +kernel
theorem dcfi_23 : decode jdk_41_method_13_code 23 = .ok (.iload_n 0, 1) := by decide +kernel
theorem dcfi_24 : decode jdk_41_method_13_code 24 = .ok (.ireturn, 1) := by decide +kernel
abbrev bcfi : wkB := (⟨"jdk/internal/util/Preconditions", "checkFromIndexSize", "(IIILjava/util/function/BiFunction;)I"⟩, jdk_41_method_13_code, 4, (some .int))
theorem dsbo_0 : decode jdk_42_method_157_code 0 = .ok (.iload_n 0, 1) := by decide +kernel
theorem dsbo_1 : decode jdk_42_method_157_code 1 = .ok (.iload_n 1, 1) := by decide +kernel
theorem dsbo_2 : decode jdk_42_method_157_code 2 = .ok (.iload_n 2, 1) := by decide +kernel
theorem dsbo_3 : decode jdk_42_method_157_code 3 = .ok (.getstatic 1053, 3) := by decide +kernel
theorem dsbo_6 : decode jdk_42_method_157_code 6 = .ok (.invokestatic 1065, 3) := by decide +kernel
theorem dsbo_9 : decode jdk_42_method_157_code 9 = .ok (.ireturn, 1) := by decide +kernel
abbrev bsbo : wkB := (⟨"java/lang/String", "checkBoundsOffCount", "(III)I"⟩, jdk_42_method_157_code, 3, (some .int))
theorem dubo_0 : decode jdk_52_method_94_code 0 = .ok (.iload_n 0, 1) := by decide +kernel
theorem dubo_1 : decode jdk_52_method_94_code 1 = .ok (.iload_n 1, 1) := by decide +kernel
theorem dubo_2 : decode jdk_52_method_94_code 2 = .ok (.aload_n 2, 1) := by decide +kernel
theorem dubo_3 : decode jdk_52_method_94_code 3 = .ok (.invokestatic 48, 3) := by decide +kernel
theorem dubo_6 : decode jdk_52_method_94_code 6 = .ok (.invokestatic 419, 3) := by decide +kernel
theorem dubo_9 : decode jdk_52_method_94_code 9 = .ok (.pop, 1) := by decide +kernel
theorem dubo_10 : decode jdk_52_method_94_code 10 = .ok (.return_, 1) := by decide +kernel
abbrev bubo : wkB := (⟨"java/lang/StringUTF16", "checkBoundsOffCount", "(II[B)V"⟩, jdk_52_method_94_code, 3, none)
theorem duinf_0 : decode jdk_52_method_86_code 0 = .ok (.iload_n 3, 1) := by decide +kernel
theorem duinf_1 : decode jdk_52_method_86_code 1 = .ok (.iload 4, 2) := by decide +kernel
theorem duinf_3 : decode jdk_52_method_86_code 3 = .ok (.aload_n 2, 1) := by decide +kernel
theorem duinf_4 : decode jdk_52_method_86_code 4 = .ok (.invokestatic 173, 3) := by decide +kernel
theorem duinf_7 : decode jdk_52_method_86_code 7 = .ok (.iconst 0, 1) := by decide +kernel
theorem duinf_8 : decode jdk_52_method_86_code 8 = .ok (.istore 5, 2) := by decide +kernel
theorem duinf_10 : decode jdk_52_method_86_code 10 = .ok (.iload 5, 2) := by decide +kernel
theorem duinf_12 : decode jdk_52_method_86_code 12 = .ok (.iload 4, 2) := by decide +kernel
theorem duinf_14 : decode jdk_52_method_86_code 14 = .ok (.if_icmp .ge 27, 3) := by decide +kernel
theorem duinf_17 : decode jdk_52_method_86_code 17 = .ok (.aload_n 2, 1) := by decide +kernel
theorem duinf_18 : decode jdk_52_method_86_code 18 = .ok (.iload_n 3, 1) := by decide +kernel
theorem duinf_19 : decode jdk_52_method_86_code 19 = .ok (.iinc 3 1, 3) := by decide +kernel
theorem duinf_22 : decode jdk_52_method_86_code 22 = .ok (.aload_n 0, 1) := by decide +kernel
theorem duinf_23 : decode jdk_52_method_86_code 23 = .ok (.iload_n 1, 1) := by decide +kernel
theorem duinf_24 : decode jdk_52_method_86_code 24 = .ok (.iinc 1 1, 3) := by decide +kernel
theorem duinf_27 : decode jdk_52_method_86_code 27 = .ok (.baload, 1) := by decide +kernel
theorem duinf_28 : decode jdk_52_method_86_code 28 = .ok (.sipush 255, 3) := by decide +kernel
theorem duinf_31 : decode jdk_52_method_86_code 31 = .ok (.iand, 1) := by decide +kernel
theorem duinf_32 : decode jdk_52_method_86_code 32 = .ok (.invokestatic 111, 3) := by decide +kernel
theorem duinf_35 : decode jdk_52_method_86_code 35 = .ok (.iinc 5 1, 3) := by decide +kernel
theorem duinf_38 : decode jdk_52_method_86_code 38 = .ok (.goto (-28), 3) := by decide +kernel
theorem duinf_41 : decode jdk_52_method_86_code 41 = .ok (.return_, 1) := by decide +kernel
abbrev buinf : wkB := (⟨"java/lang/StringUTF16", "inflate", "([BI[BII)V"⟩, jdk_52_method_86_code, 6, none)
theorem dlinf_0 : decode jdk_43_method_50_code 0 = .ok (.aload_n 0, 1) := by decide +kernel
theorem dlinf_1 : decode jdk_43_method_50_code 1 = .ok (.iload_n 1, 1) := by decide +kernel
theorem dlinf_2 : decode jdk_43_method_50_code 2 = .ok (.aload_n 2, 1) := by decide +kernel
theorem dlinf_3 : decode jdk_43_method_50_code 3 = .ok (.iload_n 3, 1) := by decide +kernel
theorem dlinf_4 : decode jdk_43_method_50_code 4 = .ok (.iload 4, 2) := by decide +kernel
theorem dlinf_6 : decode jdk_43_method_50_code 6 = .ok (.invokestatic 240, 3) := by decide +kernel
theorem dlinf_9 : decode jdk_43_method_50_code 9 = .ok (.return_, 1) := by decide +kernel
abbrev blinf : wkB := (⟨"java/lang/StringLatin1", "inflate", "([BI[BII)V"⟩, jdk_43_method_50_code, 5, none)
theorem dgb_0 : decode jdk_42_method_147_code 0 = .ok (.aload_n 0, 1) := by decide +kernel
theorem dgb_1 : decode jdk_42_method_147_code 1 = .ok (.invokevirtual 335, 3) := by decide +kernel
theorem dgb_4 : decode jdk_42_method_147_code 4 = .ok (.iload_n 3, 1) := by decide +kernel
theorem dgb_5 : decode jdk_42_method_147_code 5 = .ok (.if_icmp .ne 23, 3) := by decide +kernel
theorem dgb_8 : decode jdk_42_method_147_code 8 = .ok (.aload_n 0, 1) := by decide +kernel
theorem dgb_9 : decode jdk_42_method_147_code 9 = .ok (.getfield 9, 3) := by decide +kernel
theorem dgb_12 : decode jdk_42_method_147_code 12 = .ok (.iconst 0, 1) := by decide +kernel
theorem dgb_13 : decode jdk_42_method_147_code 13 = .ok (.aload_n 1, 1) := by decide +kernel
theorem dgb_14 : decode jdk_42_method_147_code 14 = .ok (.iload_n 2, 1) := by decide +kernel
theorem dgb_15 : decode jdk_42_method_147_code 15 = .ok (.iload_n 3, 1) := by decide +kernel
theorem dgb_16 : decode jdk_42_method_147_code 16 = .ok (.ishl, 1) := by decide +kernel
theorem dgb_17 : decode jdk_42_method_147_code 17 = .ok (.aload_n 0, 1) := by decide +kernel
theorem dgb_18 : decode jdk_42_method_147_code 18 = .ok (.getfield 9, 3) := by decide +kernel
theorem dgb_21 : decode jdk_42_method_147_code 21 = .ok (.arraylength, 1) := by decide +kernel
theorem dgb_22 : decode jdk_42_method_147_code 22 = .ok (.invokestatic 212, 3) := by decide +kernel
theorem dgb_25 : decode jdk_42_method_147_code 25 = .ok (.goto 18, 3) := by decide +kernel
theorem dgb_28 : decode jdk_42_method_147_code 28 = .ok (.aload_n 0, 1) := by decide +kernel
theorem dgb_29 : decode jdk_42_method_147_code 29 = .ok (.getfield 9, 3) := by decide +kernel
theorem dgb_32 : decode jdk_42_method_147_code 32 = .ok (.iconst 0, 1) := by decide +kernel
theorem dgb_33 : decode jdk_42_method_147_code 33 = .ok (.aload_n 1, 1) := by decide +kernel
theorem dgb_34 : decode jdk_42_method_147_code 34 = .ok (.iload_n 2, 1) := by decide +kernel
theorem dgb_35 : decode jdk_42_method_147_code 35 = .ok (.aload_n 0, 1) := by decide +kernel
theorem dgb_36 : decode jdk_42_method_147_code 36 = .ok (.getfield 9, 3) := by decide +kernel
theorem dgb_39 : decode jdk_42_method_147_code 39 = .ok (.arraylength, 1) := by decide +kernel
theorem dgb_40 : decode jdk_42_method_147_code 40 = .ok (.invokestatic 106, 3) := by decide +kernel
theorem dgb_43 : decode jdk_42_method_147_code 43 = .ok (.return_, 1) := by decide +kernel
abbrev bgb : wkB := (⟨"java/lang/String", "getBytes", "([BIB)V"⟩, jdk_42_method_147_code, 4, none)
theorem dinf_0 : decode jdk_68_method_11_code 0 = .ok (.aload_n 0, 1) := by decide +kernel
theorem dinf_1 : decode jdk_68_method_11_code 1 = .ok (.invokevirtual 83, 3) := by decide +kernel
theorem dinf_4 : decode jdk_68_method_11_code 4 = .ok (.ifCond .ne 4, 3) := by decide +kernel
theorem dinf_7 : decode jdk_68_method_11_code 7 = .ok (.return_, 1) := by decide +kernel
theorem dinf_8 : decode jdk_68_method_11_code 8 = .ok (.aload_n 0, 1) := by decide +kernel
theorem dinf_9 : decode jdk_68_method_11_code 9 = .ok (.getfield 15, 3) := by decide +kernel
theorem dinf_12 : decode jdk_68_method_11_code 12 = .ok (.arraylength, 1) := by decide +kernel
theorem dinf_13 : decode jdk_68_method_11_code 13 = .ok (.invokestatic 26, 3) := by decide +kernel
theorem dinf_16 : decode jdk_68_method_11_code 16 = .ok (.astore_n 1, 1) := by decide +kernel
theorem dinf_17 : decode jdk_68_method_11_code 17 = .ok (.aload_n 0, 1) := by decide +kernel
theorem dinf_18 : decode jdk_68_method_11_code 18 = .ok (.getfield 15, 3) := by decide +kernel
theorem dinf_21 : decode jdk_68_method_11_code 21 = .ok (.iconst 0, 1) := by decide +kernel
theorem dinf_22 : decode jdk_68_method_11_code 22 = .ok (.aload_n 1, 1) := by decide +kernel
theorem dinf_23 : decode jdk_68_method_11_code 23 = .ok (.iconst 0, 1) := by decide +kernel
theorem dinf_24 : decode jdk_68_method_11_code 24 = .ok (.aload_n 0, 1) := by decide +kernel
theorem dinf_25 : decode jdk_68_method_11_code 25 = .ok (.getfield 79, 3) := by decide +kernel
theorem dinf_28 : decode jdk_68_method_11_code 28 = .ok (.invokestatic 125, 3) := by decide +kernel
theorem dinf_31 : decode jdk_68_method_11_code 31 = .ok (.aload_n 0, 1) := by decide +kernel
theorem dinf_32 : decode jdk_68_method_11_code 32 = .ok (.aload_n 1, 1) := by decide +kernel
theorem dinf_33 : decode jdk_68_method_11_code 33 = .ok (.putfield 15, 3) := by decide +kernel
theorem dinf_36 : decode jdk_68_method_11_code 36 = .ok (.aload_n 0, 1) := by decide +kernel
theorem dinf_37 : decode jdk_68_method_11_code 37 = .ok (.iconst 1, 1) := by decide +kernel
theorem dinf_38 : decode jdk_68_method_11_code 38 = .ok (.putfield 22, 3) := by decide +kernel
theorem dinf_41 : decode jdk_68_method_11_code 41 = .ok (.return_, 1) := by decide +kernel
abbrev binf : wkB := (⟨"java/lang/AbstractStringBuilder", "inflate", "()V"⟩, jdk_68_method_11_code, 2, none)
theorem diin_0 : decode jdk_68_method_71_code 0 = .ok (.getstatic 18, 3) := by decide +kernel
theorem diin_3 : decode jdk_68_method_71_code 3 = .ok (.ifCond .eq 18, 3) := by decide +kernel
theorem diin_6 : decode jdk_68_method_71_code 6 = .ok (.aload_n 0, 1) := by decide +kernel
theorem diin_7 : decode jdk_68_method_71_code 7 = .ok (.getfield 22, 3) := by decide +kernel
theorem diin_10 : decode jdk_68_method_71_code 10 = .ok (.aload_n 1, 1) := by decide +kernel
theorem diin_11 : decode jdk_68_method_71_code 11 = .ok (.invokevirtual 40, 3) := by decide +kernel
theorem diin_14 : decode jdk_68_method_71_code 14 = .ok (.if_icmp .eq 7, 3) := by decide +kernel
theorem diin_17 : decode jdk_68_method_71_code 17 = .ok (.aload_n 0, 1) := by decide +kernel
theorem diin_18 : decode jdk_68_method_71_code 18 = .ok (.invokevirtual 195, 3) := by decide +kernel
theorem diin_21 : decode jdk_68_method_71_code 21 = .ok (.return_, 1) := by decide +kernel
abbrev biin : wkB := (⟨"java/lang/AbstractStringBuilder", "inflateIfNeededFor", "(Ljava/lang/String;)V"⟩, jdk_68_method_71_code, 2, none)
theorem dps_0 : decode jdk_68_method_73_code 0 = .ok (.aload_n 0, 1) := by decide +kernel
theorem dps_1 : decode jdk_68_method_73_code 1 = .ok (.aload_n 2, 1) := by decide +kernel
theorem dps_2 : decode jdk_68_method_73_code 2 = .ok (.invokevirtual 397, 3) := by decide +kernel
theorem dps_5 : decode jdk_68_method_73_code 5 = .ok (.aload_n 2, 1) := by decide +kernel
theorem dps_6 : decode jdk_68_method_73_code 6 = .ok (.aload_n 0, 1) := by decide +kernel
theorem dps_7 : decode jdk_68_method_73_code 7 = .ok (.getfield 15, 3) := by decide +kernel
theorem dps_10 : decode jdk_68_method_73_code 10 = .ok (.iload_n 1, 1) := by decide +kernel
theorem dps_11 : decode jdk_68_method_73_code 11 = .ok (.aload_n 0, 1) := by decide +kernel
theorem dps_12 : decode jdk_68_method_73_code 12 = .ok (.getfield 22, 3) := by decide +kernel
theorem dps_15 : decode jdk_68_method_73_code 15 = .ok (.invokevirtual 399, 3) := by decide +kernel
theorem dps_18 : decode jdk_68_method_73_code 18 = .ok (.return_, 1) := by decide +kernel
abbrev bps : wkB := (⟨"java/lang/AbstractStringBuilder", "putStringAt", "(ILjava/lang/String;)V"⟩, jdk_68_method_73_code, 3, none)
theorem dapn_0 : decode jdk_68_method_26_code 0 = .ok (.aload_n 0, 1) := by decide +kernel
theorem dapn_1 : decode jdk_68_method_26_code 1 = .ok (.aload_n 0, 1) := by decide +kernel
theorem dapn_2 : decode jdk_68_method_26_code 2 = .ok (.getfield 79, 3) := by decide +kernel
theorem dapn_5 : decode jdk_68_method_26_code 5 = .ok (.iconst 4, 1) := by decide +kernel
theorem dapn_6 : decode jdk_68_method_26_code 6 = .ok (.iadd, 1) := by decide +kernel
theorem dapn_7 : decode jdk_68_method_26_code 7 = .ok (.invokevirtual 100, 3) := by decide +kernel
theorem dapn_10 : decode jdk_68_method_26_code 10 = .ok (.aload_n 0, 1) := by decide +kernel
theorem dapn_11 : decode jdk_68_method_26_code 11 = .ok (.getfield 79, 3) := by decide +kernel
theorem dapn_14 : decode jdk_68_method_26_code 14 = .ok (.istore_n 1, 1) := by decide +kernel
theorem dapn_15 : decode jdk_68_method_26_code 15 = .ok (.aload_n 0, 1) := by decide +kernel
theorem dapn_16 : decode jdk_68_method_26_code 16 = .ok (.getfield 15, 3) := by decide +kernel
theorem dapn_19 : decode jdk_68_method_26_code 19 = .ok (.astore_n 2, 1) := by decide +kernel
theorem dapn_20 : decode jdk_68_method_26_code 20 = .ok (.aload_n 0, 1) := by decide +kernel
theorem dapn_21 : decode jdk_68_method_26_code 21 = .ok (.invokevirtual 83, 3) := by decide +kernel
theorem dapn_24 : decode jdk_68_method_26_code 24 = .ok (.ifCond .eq 38, 3) := by decide +kernel
theorem dapn_27 : decode jdk_68_method_26_code 27 = .ok (.aload_n 2, 1) := by decide +kernel
theorem dapn_28 : decode jdk_68_method_26_code 28 = .ok (.iload_n 1, 1) := by decide +kernel
theorem dapn_29 : decode jdk_68_method_26_code 29 = .ok (.iinc 1 1, 3) := by decide +kernel
theorem dapn_32 : decode jdk_68_method_26_code 32 = .ok (.bipush 110, 2) := by decide +kernel
theorem dapn_34 : decode jdk_68_method_26_code 34 = .ok (.bastore, 1) := by decide +kernel
theorem dapn_35 : decode jdk_68_method_26_code 35 = .ok (.aload_n 2, 1) := by decide +kernel
theorem dapn_36 : decode jdk_68_method_26_code 36 = .ok (.iload_n 1, 1) := by decide +kernel
theorem dapn_37 : decode jdk_68_method_26_code 37 = .ok (.iinc 1 1, 3) := by decide +kernel
theorem dapn_40 : decode jdk_68_method_26_code 40 = .ok (.bipush 117, 2) := by decide +kernel
theorem dapn_42 : decode jdk_68_method_26_code 42 = .ok (.bastore, 1) := by decide +kernel
theorem dapn_43 : decode jdk_68_method_26_code 43 = .ok (.aload_n 2, 1) := by decide +kernel
theorem dapn_44 : decode jdk_68_method_26_code 44 = .ok (.iload_n 1, 1) := by decide +kernel
theorem dapn_45 : decode jdk_68_method_26_code 45 = .ok (.iinc 1 1, 3) := by decide +kernel
theorem dapn_48 : decode jdk_68_method_26_code 48 = .ok (.bipush 108, 2) := by decide +kernel
theorem dapn_50 : decode jdk_68_method_26_code 50 = .ok (.bastore, 1) := by decide +kernel
theorem dapn_51 : decode jdk_68_method_26_code 51 = .ok (.aload_n 2, 1) := by decide +kernel
theorem dapn_52 : decode jdk_68_method_26_code 52 = .ok (.iload_n 1, 1) := by decide +kernel
theorem dapn_53 : decode jdk_68_method_26_code 53 = .ok (.iinc 1 1, 3) := by decide +kernel
theorem dapn_56 : decode jdk_68_method_26_code 56 = .ok (.bipush 108, 2) := by decide +kernel
theorem dapn_58 : decode jdk_68_method_26_code 58 = .ok (.bastore, 1) := by decide +kernel
theorem dapn_59 : decode jdk_68_method_26_code 59 = .ok (.goto 17, 3) := by decide +kernel
theorem dapn_76 : decode jdk_68_method_26_code 76 = .ok (.aload_n 0, 1) := by decide +kernel
theorem dapn_77 : decode jdk_68_method_26_code 77 = .ok (.iload_n 1, 1) := by decide +kernel
theorem dapn_78 : decode jdk_68_method_26_code 78 = .ok (.putfield 79, 3) := by decide +kernel
theorem dapn_81 : decode jdk_68_method_26_code 81 = .ok (.aload_n 0, 1) := by decide +kernel
theorem dapn_82 : decode jdk_68_method_26_code 82 = .ok (.areturn, 1) := by decide +kernel
abbrev bapn : wkB := (⟨"java/lang/AbstractStringBuilder", "appendNull", "()Ljava/lang/AbstractStringBuilder;"⟩, jdk_68_method_26_code, 3, (some (.object "java/lang/AbstractStringBuilder")))
theorem daap_0 : decode jdk_68_method_22_code 0 = .ok (.aload_n 1, 1) := by decide +kernel
theorem daap_1 : decode jdk_68_method_22_code 1 = .ok (.ifnonnull 8, 3) := by decide +kernel
theorem daap_4 : decode jdk_68_method_22_code 4 = .ok (.aload_n 0, 1) := by decide +kernel
theorem daap_5 : decode jdk_68_method_22_code 5 = .ok (.invokevirtual 204, 3) := by decide +kernel
theorem daap_8 : decode jdk_68_method_22_code 8 = .ok (.areturn, 1) := by decide +kernel
theorem daap_9 : decode jdk_68_method_22_code 9 = .ok (.aload_n 1, 1) := by decide +kernel
theorem daap_10 : decode jdk_68_method_22_code 10 = .ok (.invokevirtual 32, 3) := by decide +kernel
theorem daap_13 : decode jdk_68_method_22_code 13 = .ok (.istore_n 2, 1) := by decide +kernel
theorem daap_14 : decode jdk_68_method_22_code 14 = .ok (.aload_n 0, 1) := by decide +kernel
theorem daap_15 : decode jdk_68_method_22_code 15 = .ok (.aload_n 0, 1) := by decide +kernel
theorem daap_16 : decode jdk_68_method_22_code 16 = .ok (.getfield 79, 3) := by decide +kernel
theorem daap_19 : decode jdk_68_method_22_code 19 = .ok (.iload_n 2, 1) := by decide +kernel
theorem daap_20 : decode jdk_68_method_22_code 20 = .ok (.iadd, 1) := by decide +kernel
theorem daap_21 : decode jdk_68_method_22_code 21 = .ok (.invokevirtual 100, 3) := by decide +kernel
theorem daap_24 : decode jdk_68_method_22_code 24 = .ok (.aload_n 0, 1) := by decide +kernel
theorem daap_25 : decode jdk_68_method_22_code 25 = .ok (.aload_n 0, 1) := by decide +kernel
theorem daap_26 : decode jdk_68_method_22_code 26 = .ok (.getfield 79, 3) := by decide +kernel
theorem daap_29 : decode jdk_68_method_22_code 29 = .ok (.aload_n 1, 1) := by decide +kernel
theorem daap_30 : decode jdk_68_method_22_code 30 = .ok (.invokevirtual 208, 3) := by decide +kernel
theorem daap_33 : decode jdk_68_method_22_code 33 = .ok (.aload_n 0, 1) := by decide +kernel
theorem daap_34 : decode jdk_68_method_22_code 34 = .ok (.dup, 1) := by decide +kernel
theorem daap_35 : decode jdk_68_method_22_code 35 = .ok (.getfield 79, 3) := by decide +kernel
theorem daap_38 : decode jdk_68_method_22_code 38 = .ok (.iload_n 2, 1) := by decide +kernel
theorem daap_39 : decode jdk_68_method_22_code 39 = .ok (.iadd, 1) := by decide +kernel
theorem daap_40 : decode jdk_68_method_22_code 40 = .ok (.putfield 79, 3) := by decide +kernel
theorem daap_43 : decode jdk_68_method_22_code 43 = .ok (.aload_n 0, 1) := by decide +kernel
theorem daap_44 : decode jdk_68_method_22_code 44 = .ok (.areturn, 1) := by decide +kernel
abbrev baap : wkB := (⟨"java/lang/AbstractStringBuilder", "append", "(Ljava/lang/String;)Ljava/lang/AbstractStringBuilder;"⟩, jdk_68_method_22_code, 3, (some (.object "java/lang/AbstractStringBuilder")))
theorem dbap_0 : decode jdk_67_method_7_code 0 = .ok (.aload_n 0, 1) := by decide +kernel
theorem dbap_1 : decode jdk_67_method_7_code 1 = .ok (.aload_n 1, 1) := by decide +kernel
theorem dbap_2 : decode jdk_67_method_7_code 2 = .ok (.invokespecial 29, 3) := by decide +kernel
theorem dbap_5 : decode jdk_67_method_7_code 5 = .ok (.pop, 1) := by decide +kernel
theorem dbap_6 : decode jdk_67_method_7_code 6 = .ok (.aload_n 0, 1) := by decide +kernel
theorem dbap_7 : decode jdk_67_method_7_code 7 = .ok (.areturn, 1) := by decide +kernel
abbrev bbap : wkB := (⟨"java/lang/StringBuilder", "append", "(Ljava/lang/String;)Ljava/lang/StringBuilder;"⟩, jdk_67_method_7_code, 2, (some (.object "java/lang/StringBuilder")))
theorem dmin_0 : decode jdk_29_method_69_code 0 = .ok (.iload_n 0, 1) := by decide +kernel
theorem dmin_1 : decode jdk_29_method_69_code 1 = .ok (.iload_n 1, 1) := by decide +kernel
theorem dmin_2 : decode jdk_29_method_69_code 2 = .ok (.if_icmp .gt 7, 3) := by decide +kernel
theorem dmin_5 : decode jdk_29_method_69_code 5 = .ok (.iload_n 0, 1) := by decide +kernel
theorem dmin_6 : decode jdk_29_method_69_code 6 = .ok (.goto 4, 3) := by decide +kernel
theorem dmin_9 : decode jdk_29_method_69_code 9 = .ok (.iload_n 1, 1) := by decide +kernel
theorem dmin_10 : decode jdk_29_method_69_code 10 = .ok (.ireturn, 1) := by decide +kernel
abbrev bmin : wkB := (⟨"java/lang/Math", "min", "(II)I"⟩, jdk_29_method_69_code, 2, (some .int))
theorem dckl_0 : decode jdk_65_method_131_code 0 = .ok (.iload_n 1, 1) := by decide +kernel
theorem dckl_1 : decode jdk_65_method_131_code 1 = .ok (.iload_n 0, 1) := by decide +kernel
theorem dckl_2 : decode jdk_65_method_131_code 2 = .ok (.if_icmp .ge 35, 3) := by decide +kernel
theorem dckl_37 : decode jdk_65_method_131_code 37 = .ok (.return_, 1) := by decide +kernel
abbrev bckl : wkB := (⟨"java/util/Arrays", "checkLength", "(II)V"⟩, jdk_65_method_131_code, 2, none)
theorem dcrb_0 : decode jdk_65_method_133_code 0 = .ok (.iload_n 1, 1) := by decide +kernel
theorem dcrb_1 : decode jdk_65_method_133_code 1 = .ok (.iload_n 2, 1) := by decide +kernel
theorem dcrb_2 : decode jdk_65_method_133_code 2 = .ok (.invokestatic 343, 3) := by decide +kernel
theorem dcrb_5 : decode jdk_65_method_133_code 5 = .ok (.iload_n 2, 1) := by decide +kernel
theorem dcrb_6 : decode jdk_65_method_133_code 6 = .ok (.iload_n 1, 1) := by decide +kernel
theorem dcrb_7 : decode jdk_65_method_133_code 7 = .ok (.isub, 1) := by decide +kernel
theorem dcrb_8 : decode jdk_65_method_133_code 8 = .ok (.istore_n 3, 1) := by decide +kernel
theorem dcrb_9 : decode jdk_65_method_133_code 9 = .ok (.iload_n 3, 1) := by decide +kernel
theorem dcrb_10 : decode jdk_65_method_133_code 10 = .ok (.newarray .byte, 2) := by decide +kernel
theorem dcrb_12 : decode jdk_65_method_133_code 12 = .ok (.astore 4, 2) := by decide +kernel
theorem dcrb_14 : decode jdk_65_method_133_code 14 = .ok (.aload_n 0, 1) := by decide +kernel
theorem dcrb_15 : decode jdk_65_method_133_code 15 = .ok (.iload_n 1, 1) := by decide +kernel
theorem dcrb_16 : decode jdk_65_method_133_code 16 = .ok (.aload 4, 2) := by decide +kernel
theorem dcrb_18 : decode jdk_65_method_133_code 18 = .ok (.iconst 0, 1) := by decide +kernel
theorem dcrb_19 : decode jdk_65_method_133_code 19 = .ok (.aload_n 0, 1) := by decide +kernel
theorem dcrb_20 : decode jdk_65_method_133_code 20 = .ok (.arraylength, 1) := by decide +kernel
theorem dcrb_21 : decode jdk_65_method_133_code 21 = .ok (.iload_n 1, 1) := by decide +kernel
theorem dcrb_22 : decode jdk_65_method_133_code 22 = .ok (.isub, 1) := by decide +kernel
theorem dcrb_23 : decode jdk_65_method_133_code 23 = .ok (.iload_n 3, 1) := by decide +kernel
theorem dcrb_24 : decode jdk_65_method_133_code 24 = .ok (.invokestatic 304, 3) := by decide +kernel
theorem dcrb_27 : decode jdk_65_method_133_code 27 = .ok (.invokestatic 150, 3) := by decide +kernel
theorem dcrb_30 : decode jdk_65_method_133_code 30 = .ok (.aload 4, 2) := by decide +kernel
theorem dcrb_32 : decode jdk_65_method_133_code 32 = .ok (.areturn, 1) := by decide +kernel
abbrev bcrb : wkB := (⟨"java/util/Arrays", "copyOfRangeByte", "([BII)[B"⟩, jdk_65_method_133_code, 5, (some (.array .byte)))
theorem dcor_0 : decode jdk_65_method_132_code 0 = .ok (.iload_n 1, 1) := by decide +kernel
theorem dcor_1 : decode jdk_65_method_132_code 1 = .ok (.ifCond .ne 9, 3) := by decide +kernel
theorem dcor_4 : decode jdk_65_method_132_code 4 = .ok (.iload_n 2, 1) := by decide +kernel
theorem dcor_5 : decode jdk_65_method_132_code 5 = .ok (.aload_n 0, 1) := by decide +kernel
theorem dcor_6 : decode jdk_65_method_132_code 6 = .ok (.arraylength, 1) := by decide +kernel
theorem dcor_7 : decode jdk_65_method_132_code 7 = .ok (.if_icmp .eq 10, 3) := by decide +kernel
theorem dcor_10 : decode jdk_65_method_132_code 10 = .ok (.aload_n 0, 1) := by decide +kernel
theorem dcor_11 : decode jdk_65_method_132_code 11 = .ok (.iload_n 1, 1) := by decide +kernel
theorem dcor_12 : decode jdk_65_method_132_code 12 = .ok (.iload_n 2, 1) := by decide +kernel
theorem dcor_13 : decode jdk_65_method_132_code 13 = .ok (.invokestatic 339, 3) := by decide +kernel
theorem dcor_16 : decode jdk_65_method_132_code 16 = .ok (.areturn, 1) := by decide +kernel
theorem dcor_17 : decode jdk_65_method_132_code 17 = .ok (.aload_n 0, 1) := by decide +kernel
theorem dcor_18 : decode jdk_65_method_132_code 18 = .ok (.invokevirtual 310, 3) := by decide +kernel
theorem dcor_21 : decode jdk_65_method_132_code 21 = .ok (.checkcast 311, 3) := by decide +kernel
theorem dcor_24 : decode jdk_65_method_132_code 24 = .ok (.areturn, 1) := by decide +kernel
abbrev bcor : wkB := (⟨"java/util/Arrays", "copyOfRange", "([BII)[B"⟩, jdk_65_method_132_code, 3, (some (.array .byte)))
theorem dgv_0 : decode jdk_68_method_64_code 0 = .ok (.aload_n 0, 1) := by decide +kernel
theorem dgv_1 : decode jdk_68_method_64_code 1 = .ok (.getfield 15, 3) := by decide +kernel
theorem dgv_4 : decode jdk_68_method_64_code 4 = .ok (.areturn, 1) := by decide +kernel
abbrev bgv : wkB := (⟨"java/lang/AbstractStringBuilder", "getValue", "()[B"⟩, jdk_68_method_64_code, 1, (some (.array .byte)))
theorem dal_0 : decode jdk_68_method_6_code 0 = .ok (.aload_n 0, 1) := by decide +kernel
theorem dal_1 : decode jdk_68_method_6_code 1 = .ok (.getfield 79, 3) := by decide +kernel
theorem dal_4 : decode jdk_68_method_6_code 4 = .ok (.ireturn, 1) := by decide +kernel
abbrev bal : wkB := (⟨"java/lang/AbstractStringBuilder", "length", "()I"⟩, jdk_68_method_6_code, 1, (some .int))
theorem dbl_0 : decode jdk_67_method_93_code 0 = .ok (.aload_n 0, 1) := by decide +kernel
theorem dbl_1 : decode jdk_67_method_93_code 1 = .ok (.invokespecial 343, 3) := by decide +kernel
theorem dbl_4 : decode jdk_67_method_93_code 4 = .ok (.ireturn, 1) := by decide +kernel
abbrev bbl : wkB := (⟨"java/lang/StringBuilder", "length", "()I"⟩, jdk_67_method_93_code, 1, (some .int))
theorem disb_0 : decode jdk_42_method_150_code 0 = .ok (.aload_n 0, 1) := by decide +kernel
theorem disb_1 : decode jdk_42_method_150_code 1 = .ok (.invokespecial 1, 3) := by decide +kernel
theorem disb_4 : decode jdk_42_method_150_code 4 = .ok (.aload_n 1, 1) := by decide +kernel
theorem disb_5 : decode jdk_42_method_150_code 5 = .ok (.invokevirtual 552, 3) := by decide +kernel
theorem disb_8 : decode jdk_42_method_150_code 8 = .ok (.astore_n 3, 1) := by decide +kernel
theorem disb_9 : decode jdk_42_method_150_code 9 = .ok (.aload_n 1, 1) := by decide +kernel
theorem disb_10 : decode jdk_42_method_150_code 10 = .ok (.invokevirtual 549, 3) := by decide +kernel
theorem disb_13 : decode jdk_42_method_150_code 13 = .ok (.istore 4, 2) := by decide +kernel
theorem disb_15 : decode jdk_42_method_150_code 15 = .ok (.aload_n 1, 1) := by decide +kernel
theorem disb_16 : decode jdk_42_method_150_code 16 = .ok (.invokevirtual 1047, 3) := by decide +kernel
theorem disb_19 : decode jdk_42_method_150_code 19 = .ok (.ifCond .eq 22, 3) := by decide +kernel
theorem disb_22 : decode jdk_42_method_150_code 22 = .ok (.aload_n 0, 1) := by decide +kernel
theorem disb_23 : decode jdk_42_method_150_code 23 = .ok (.iconst 0, 1) := by decide +kernel
theorem disb_24 : decode jdk_42_method_150_code 24 = .ok (.putfield 15, 3) := by decide +kernel
theorem disb_27 : decode jdk_42_method_150_code 27 = .ok (.aload_n 0, 1) := by decide +kernel
theorem disb_28 : decode jdk_42_method_150_code 28 = .ok (.aload_n 3, 1) := by decide +kernel
theorem disb_29 : decode jdk_42_method_150_code 29 = .ok (.iconst 0, 1) := by decide +kernel
theorem disb_30 : decode jdk_42_method_150_code 30 = .ok (.iload 4, 2) := by decide +kernel
theorem disb_32 : decode jdk_42_method_150_code 32 = .ok (.invokestatic 54, 3) := by decide +kernel
theorem disb_35 : decode jdk_42_method_150_code 35 = .ok (.putfield 9, 3) := by decide +kernel
theorem disb_38 : decode jdk_42_method_150_code 38 = .ok (.goto 59, 3) := by decide +kernel
theorem disb_41 : decode jdk_42_method_150_code 41 = .ok (.getstatic 38, 3) := by decide +kernel
theorem disb_44 : decode jdk_42_method_150_code 44 = .ok (.ifCond .eq 35, 3) := by decide +kernel
theorem disb_47 : decode jdk_42_method_150_code 47 = .ok (.aload_n 1, 1) := by decide +kernel
theorem disb_48 : decode jdk_42_method_150_code 48 = .ok (.getfield 1048, 3) := by decide +kernel
theorem disb_51 : decode jdk_42_method_150_code 51 = .ok (.ifCond .eq 28, 3) := by decide +kernel
theorem disb_79 : decode jdk_42_method_150_code 79 = .ok (.aload_n 0, 1) := by decide +kernel
theorem disb_80 : decode jdk_42_method_150_code 80 = .ok (.iconst 1, 1) := by decide +kernel
theorem disb_81 : decode jdk_42_method_150_code 81 = .ok (.putfield 15, 3) := by decide +kernel
theorem disb_84 : decode jdk_42_method_150_code 84 = .ok (.aload_n 0, 1) := by decide +kernel
theorem disb_85 : decode jdk_42_method_150_code 85 = .ok (.aload_n 3, 1) := by decide +kernel
theorem disb_86 : decode jdk_42_method_150_code 86 = .ok (.iconst 0, 1) := by decide +kernel
theorem disb_87 : decode jdk_42_method_150_code 87 = .ok (.iload 4, 2) := by decide +kernel
theorem disb_89 : decode jdk_42_method_150_code 89 = .ok (.iconst 1, 1) := by decide +kernel
theorem disb_90 : decode jdk_42_method_150_code 90 = .ok (.ishl, 1) := by decide +kernel
theorem disb_91 : decode jdk_42_method_150_code 91 = .ok (.invokestatic 54, 3) := by decide +kernel
theorem disb_94 : decode jdk_42_method_150_code 94 = .ok (.putfield 9, 3) := by decide +kernel
theorem disb_97 : decode jdk_42_method_150_code 97 = .ok (.return_, 1) := by decide +kernel
abbrev bisb : wkB := (⟨"java/lang/String", "<init>", "(Ljava/lang/AbstractStringBuilder;Ljava/lang/Void;)V"⟩, jdk_42_method_150_code, 5, none)
theorem disc_0 : decode jdk_42_method_53_code 0 = .ok (.aload_n 0, 1) := by decide +kernel
theorem disc_1 : decode jdk_42_method_53_code 1 = .ok (.aload_n 1, 1) := by decide +kernel
theorem disc_2 : decode jdk_42_method_53_code 2 = .ok (.aconst_null, 1) := by decide +kernel
theorem disc_3 : decode jdk_42_method_53_code 3 = .ok (.invokespecial 489, 3) := by decide +kernel
theorem disc_6 : decode jdk_42_method_53_code 6 = .ok (.return_, 1) := by decide +kernel
abbrev bisc : wkB := (⟨"java/lang/String", "<init>", "(Ljava/lang/StringBuilder;)V"⟩, jdk_42_method_53_code, 2, none)
theorem dtos_0 : decode jdk_67_method_42_code 0 = .ok (.new 18, 3) := by decide +kernel
theorem dtos_3 : decode jdk_67_method_42_code 3 = .ok (.dup, 1) := by decide +kernel
theorem dtos_4 : decode jdk_67_method_42_code 4 = .ok (.aload_n 0, 1) := by decide +kernel
theorem dtos_5 : decode jdk_67_method_42_code 5 = .ok (.invokespecial 137, 3) := by decide +kernel
theorem dtos_8 : decode jdk_67_method_42_code 8 = .ok (.areturn, 1) := by decide +kernel
abbrev btos : wkB := (⟨"java/lang/StringBuilder", "toString", "()Ljava/lang/String;"⟩, jdk_67_method_42_code, 1, (some (.object "java/lang/String")))
theorem dthi_0 : decode jdk_78_method_2_code 0 = .ok (.aload_n 0, 1) := by decide +kernel
theorem dthi_1 : decode jdk_78_method_2_code 1 = .ok (.invokespecial 1, 3) := by decide +kernel
theorem dthi_4 : decode jdk_78_method_2_code 4 = .ok (.aload_n 0, 1) := by decide +kernel
theorem dthi_5 : decode jdk_78_method_2_code 5 = .ok (.aload_n 0, 1) := by decide +kernel
theorem dthi_6 : decode jdk_78_method_2_code 6 = .ok (.putfield 7, 3) := by decide +kernel
theorem dthi_9 : decode jdk_78_method_2_code 9 = .ok (.aload_n 0, 1) := by decide +kernel
theorem dthi_10 : decode jdk_78_method_2_code 10 = .ok (.getstatic 13, 3) := by decide +kernel
theorem dthi_13 : decode jdk_78_method_2_code 13 = .ok (.putfield 17, 3) := by decide +kernel
theorem dthi_16 : decode jdk_78_method_2_code 16 = .ok (.aload_n 0, 1) := by decide +kernel
theorem dthi_17 : decode jdk_78_method_2_code 17 = .ok (.getstatic 20, 3) := by decide +kernel
theorem dthi_20 : decode jdk_78_method_2_code 20 = .ok (.putfield 24, 3) := by decide +kernel
theorem dthi_23 : decode jdk_78_method_2_code 23 = .ok (.aload_n 0, 1) := by decide +kernel
theorem dthi_24 : decode jdk_78_method_2_code 24 = .ok (.invokevirtual 27, 3) := by decide +kernel
theorem dthi_27 : decode jdk_78_method_2_code 27 = .ok (.pop, 1) := by decide +kernel
theorem dthi_28 : decode jdk_78_method_2_code 28 = .ok (.aload_n 0, 1) := by decide +kernel
theorem dthi_29 : decode jdk_78_method_2_code 29 = .ok (.aload_n 1, 1) := by decide +kernel
theorem dthi_30 : decode jdk_78_method_2_code 30 = .ok (.putfield 31, 3) := by decide +kernel
theorem dthi_33 : decode jdk_78_method_2_code 33 = .ok (.return_, 1) := by decide +kernel
abbrev bthi : wkB := (⟨"java/lang/Throwable", "<init>", "(Ljava/lang/String;)V"⟩, jdk_78_method_2_code, 2, none)
theorem dexi_0 : decode jdk_59_method_2_code 0 = .ok (.aload_n 0, 1) := by decide +kernel
theorem dexi_1 : decode jdk_59_method_2_code 1 = .ok (.aload_n 1, 1) := by decide +kernel
theorem dexi_2 : decode jdk_59_method_2_code 2 = .ok (.invokespecial 7, 3) := by decide +kernel
theorem dexi_5 : decode jdk_59_method_2_code 5 = .ok (.return_, 1) := by decide +kernel
abbrev bexi : wkB := (⟨"java/lang/Exception", "<init>", "(Ljava/lang/String;)V"⟩, jdk_59_method_2_code, 2, none)
theorem drei_0 : decode jdk_58_method_2_code 0 = .ok (.aload_n 0, 1) := by decide +kernel
theorem drei_1 : decode jdk_58_method_2_code 1 = .ok (.aload_n 1, 1) := by decide +kernel
theorem drei_2 : decode jdk_58_method_2_code 2 = .ok (.invokespecial 7, 3) := by decide +kernel
theorem drei_5 : decode jdk_58_method_2_code 5 = .ok (.return_, 1) := by decide +kernel
abbrev brei : wkB := (⟨"java/lang/RuntimeException", "<init>", "(Ljava/lang/String;)V"⟩, jdk_58_method_2_code, 2, none)
theorem diei_0 : decode prog_3_method_1_code 0 = .ok (.aload_n 0, 1) := by decide +kernel
theorem diei_1 : decode prog_3_method_1_code 1 = .ok (.aload_n 1, 1) := by decide +kernel
theorem diei_2 : decode prog_3_method_1_code 2 = .ok (.invokespecial 1, 3) := by decide +kernel
theorem diei_5 : decode prog_3_method_1_code 5 = .ok (.return_, 1) := by decide +kernel
abbrev biei : wkB := (⟨"com/example/sieve_for_sparql/sieveforsparql/InputException", "<init>", "(Ljava/lang/String;)V"⟩, prog_3_method_1_code, 2, none)
theorem dgm_0 : decode jdk_78_method_6_code 0 = .ok (.aload_n 0, 1) := by decide +kernel
theorem dgm_1 : decode jdk_78_method_6_code 1 = .ok (.getfield 31, 3) := by decide +kernel
theorem dgm_4 : decode jdk_78_method_6_code 4 = .ok (.areturn, 1) := by decide +kernel
abbrev bgm : wkB := (⟨"java/lang/Throwable", "getMessage", "()Ljava/lang/String;"⟩, jdk_78_method_6_code, 1, (some (.object "java/lang/String")))
theorem dmis_0 : decode prog_4_method_10_code 0 = .ok (.new 51, 3) := by decide +kernel
theorem dmis_3 : decode prog_4_method_10_code 3 = .ok (.dup, 1) := by decide +kernel
theorem dmis_4 : decode prog_4_method_10_code 4 = .ok (.new 53, 3) := by decide +kernel
theorem dmis_7 : decode prog_4_method_10_code 7 = .ok (.dup, 1) := by decide +kernel
theorem dmis_8 : decode prog_4_method_10_code 8 = .ok (.invokespecial 55, 3) := by decide +kernel
theorem dmis_11 : decode prog_4_method_10_code 11 = .ok (.aload_n 0, 1) := by decide +kernel
theorem dmis_12 : decode prog_4_method_10_code 12 = .ok (.invokevirtual 56, 3) := by decide +kernel
theorem dmis_15 : decode prog_4_method_10_code 15 = .ok (.ldc 188, 2) := by decide +kernel
theorem dmis_17 : decode prog_4_method_10_code 17 = .ok (.invokevirtual 56, 3) := by decide +kernel
theorem dmis_20 : decode prog_4_method_10_code 20 = .ok (.invokevirtual 62, 3) := by decide +kernel
theorem dmis_23 : decode prog_4_method_10_code 23 = .ok (.invokespecial 66, 3) := by decide +kernel
theorem dmis_26 : decode prog_4_method_10_code 26 = .ok (.areturn, 1) := by decide +kernel
abbrev bmis : wkB := (⟨"com/example/sieve_for_sparql/sieveforsparql/Options", "missing", "(Ljava/lang/String;)Lcom/example/sieve_for_sparql/sieveforsparql/InputException;"⟩, prog_4_method_10_code, 1, (some (.object "com/example/sieve_for_sparql/sieveforsparql/InputException")))
abbrev blaw : wkB := (⟨"com/example/sieve_for_sparql/sieveforsparql/OptionsMissingPinLaw", "law", "(IIII)Z"⟩, code, 18, (some .boolean))
theorem sAtoms {Z : State} {a0 : Array Value} (hw : ∀ d ∈ tables_1, d.before a0 Z = true) : ∀ a ∈ Bundle.stringAtoms, a.before a0 Z = true := by
  intro a ha
  simp only [Bundle.stringAtoms, List.mem_cons, List.not_mem_nil, or_false] at ha
  rcases ha with rfl | rfl | rfl | rfl | rfl | rfl | rfl
  · exact (w3 hw)
  · exact (w2 hw)
  · exact (w16 hw)
  · exact (w17 hw)
  · exact (w18 hw)
  · exact (w19 hw)
  · exact (w20 hw)
abbrev rcmp5 : Room := { frames := 0, cells := 0, slots := 0, locals := 0 }
/-- compress: the chars below 256 go over, up to the first that isn't -/
def Qcmp5 (Z : State) (d : Addr) (cs : List Int32) (v : Option Value) (h' : Heap) (os : List Addr) : Prop := ∃ (i : Nat) (ys : List Int32), i ≤ cs.length ∧ v = some (.int (Int32.ofNat i)) ∧ os = [] ∧ Ia Z h' d .byte ys ∧ ys.length = cs.length ∧ (∀ j, j < i → ∃ c, cs[j]? = some c ∧ ¬ 255 < c ∧ ys[j]? = some (lo8 c)) ∧ (i < cs.length → ∃ c, cs[i]? = some c ∧ 255 < c)
set_option maxRecDepth 65536 in
set_option maxHeartbeats 4000000 in
theorem L_cmp5 (l : Launch) (Z : State) (a0 : Array Value) (g : G Z a0) (hs : Heap) (b d : Addr) (cs : List Int32) (hbd : @Ne Nat b d) (hl31 : cs.length < 2 ^ 31) : ∀ (r i : Nat) (h : Heap) (ds : List Int32) (o6 : Slot), One o6 → i + r = cs.length → Ia Z h b .char cs → Ia Z h d .byte ds → ds.length = cs.length → (∀ j, j < i → ∃ c, cs[j]? = some c ∧ ¬ 255 < c ∧ ds[j]? = some (lo8 c)) →
    wkP l Z bcmp5 rcmp5 hs [d] (Qcmp5 Z d cs) [d] h 0 0 3 #[.val (.ref b), .val (.int (Int32.ofNat i)), .val (.ref d), .val (.int (Int32.ofNat i)), .val (.int (Int32.ofNat cs.length)), .val (.int (Int32.ofNat i)), o6] [] := by
  intro r
  induction r with
  | zero =>
    intro i h ds o6 ho6 hir F D hds hj
    have hi31 : i < 2 ^ 31 := by omega
    refine wkP.iload 5 dcmp5_3 rfl rfl ?_
    refine wkP.iload 7 dcmp5_5 rfl rfl ?_
    refine wkP.icmpT 44 dcmp5_7 (show ¬ (Int32.ofNat i) < (Int32.ofNat cs.length) from (by rw [ofNat_lt hi31 hl31]; omega)) (by decide) (by decide) ?_
    refine wkP.iload 46 dcmp5_44 rfl rfl ?_
    exact wkP.retI .int [] g.2.1 dcmp5_46 rfl (by simp) rfl (by decide) (by decide) (by simp) ⟨i, ds, by omega, by rw [show cs.length = i by omega], rfl, D, hds, hj, fun q => absurd q (by omega)⟩
  | succ r ih =>
    intro i h ds o6 ho6 hir F D hds hj
    have hi31 : i < 2 ^ 31 := by omega
    refine wkP.iload 5 dcmp5_3 rfl rfl ?_
    refine wkP.iload 7 dcmp5_5 rfl rfl ?_
    refine wkP.icmpF 10 dcmp5_7 (show ¬ (¬ (Int32.ofNat i) < (Int32.ofNat cs.length)) from (fun q => q ((ofNat_lt hi31 hl31).mpr (by omega)))) rfl ?_
    refine wkP.aloadN 11 dcmp5_10 rfl rfl rfl ?_
    refine wkP.iloadN 12 dcmp5_11 rfl rfl ?_
    obtain ⟨c, hc⟩ : ∃ c, cs[i]? = some c := ⟨_, List.getElem?_eq_getElem (show i < cs.length by omega)⟩
    refine wkP.caload 13 i c F dcmp5_12 (toI hi31) hc rfl ?_
    refine wkP.istore 15 #[.val (.ref b), .val (.int (Int32.ofNat i)), .val (.ref d), .val (.int (Int32.ofNat i)), .val (.int (Int32.ofNat cs.length)), .val (.int (Int32.ofNat i)), .val (.int c)] dcmp5_13 (XS.store1 rfl ho6 rfl) rfl ?_
    refine wkP.iload 17 dcmp5_15 rfl rfl ?_
    refine wkP.sipush 20 (255 : Int32) dcmp5_17 rfl rfl ?_
    by_cases hq : (255 : Int32) < c
    · refine wkP.icmpF 23 dcmp5_20 (show ¬ (¬ (255 : Int32) < c) from (fun q => q hq)) rfl ?_
      refine wkP.iload 25 dcmp5_23 rfl rfl ?_
      exact wkP.retI .int [] g.2.1 dcmp5_25 rfl (by simp) rfl (by decide) (by decide) (by simp) ⟨i, ds, by omega, rfl, rfl, D, hds, hj, fun _ => ⟨c, hc, hq⟩⟩
    · refine wkP.icmpT 26 dcmp5_20 (show ¬ (255 : Int32) < c from hq) (by decide) (by decide) ?_
      refine wkP.aloadN 27 dcmp5_26 rfl rfl rfl ?_
      refine wkP.iloadN 28 dcmp5_27 rfl rfl ?_
      refine wkP.iload 30 dcmp5_28 rfl rfl ?_
      refine wkP.i2b 31 (lo8 c) dcmp5_30 rfl rfl ?_
      refine wkP.stB 32 i (lo8 c) D dcmp5_31 (toI hi31) (by omega) (nar_lo8 c) (by simp) rfl ?_
      intro h1 K1 A1
      refine wkP.iinc 35 (Int32.ofNat (i + 1)) #[.val (.ref b), .val (.int (Int32.ofNat (i + 1))), .val (.ref d), .val (.int (Int32.ofNat i)), .val (.int (Int32.ofNat cs.length)), .val (.int (Int32.ofNat i)), .val (.int c)] dcmp5_32 rfl (inc1 i) rfl rfl ?_
      refine wkP.iinc 38 (Int32.ofNat (i + 1)) #[.val (.ref b), .val (.int (Int32.ofNat (i + 1))), .val (.ref d), .val (.int (Int32.ofNat (i + 1))), .val (.int (Int32.ofNat cs.length)), .val (.int (Int32.ofNat i)), .val (.int c)] dcmp5_35 rfl (inc1 i) rfl rfl ?_
      refine wkP.iinc 41 (Int32.ofNat (i + 1)) #[.val (.ref b), .val (.int (Int32.ofNat (i + 1))), .val (.ref d), .val (.int (Int32.ofNat (i + 1))), .val (.int (Int32.ofNat cs.length)), .val (.int (Int32.ofNat (i + 1))), .val (.int c)] dcmp5_38 rfl (inc1 i) rfl rfl ?_
      refine wkP.goto 3 dcmp5_41 (by decide) (by decide) ?_
      refine ih (i + 1) h1 (ds.set i (lo8 c)) _ (One.val rfl) (by omega) (F.keep K1 (nn1 hbd)) A1 (by simpa using hds) ?_
      intro j hj1
      by_cases hji : j = i
      · subst hji; exact ⟨c, hc, hq, by simp [show j < ds.length by omega]⟩
      · obtain ⟨c', q1, q2, q3⟩ := hj j (by omega); exact ⟨c', q1, q2, by rw [List.getElem?_set_ne (Ne.symm hji)]; exact q3⟩
set_option maxRecDepth 65536 in
set_option maxHeartbeats 4000000 in
theorem M_cmp5 (l : Launch) (Z : State) (a0 : Array Value) (g : G Z a0) (h : Heap) (b d : Addr) (cs ds : List Int32) (F : Ia Z h b .char cs) (D : Ia Z h d .byte ds) (hl : ds.length = cs.length) : wkM l Z bcmp5 rcmp5 #[.ref b, .int 0, .ref d, .int 0, .int (Int32.ofNat cs.length)] h [d] (Qcmp5 Z d cs) := by
  refine wkM.of #[.val (.ref b), .val (.int (0 : Int32)), .val (.ref d), .val (.int (0 : Int32)), .val (.int (Int32.ofNat cs.length)), .unset, .unset] (plainFor_of_name (by first | (simp [plainName, overriddenIn]; done) | decide +kernel)) (fun m => by first | rfl | (simp [entryFrame, mkF, argsToLocals, Value.category]; done)) ?_
  refine wkP.iconst 1 (0 : Int32) dcmp5_0 rfl rfl ?_
  refine wkP.istore 3 #[.val (.ref b), .val (.int (0 : Int32)), .val (.ref d), .val (.int (0 : Int32)), .val (.int (Int32.ofNat cs.length)), .val (.int (0 : Int32)), .unset] dcmp5_1 rfl rfl ?_
  exact L_cmp5 l Z a0 g h b d cs (F.ne D (by decide)) F.len cs.length 0 h ds .unset One.u (by omega) F D hl (fun j hj => absurd hj (by omega))
abbrev rcodL : Room := { frames := 0, cells := 0, slots := 0, locals := 0 }
set_option maxRecDepth 65536 in
set_option maxHeartbeats 4000000 in
theorem M_codL (l : Launch) (Z : State) (a0 : Array Value) (g : G Z a0) (h : Heap) (b : Addr) (ys : List Int32) (n : Nat) (F : Ia Z h b .byte ys) (hn : ys.length = n) : wkM l Z bcodL rcodL #[.ref b, .int (Int32.ofNat n)] h [] (fun v h' os => v = some (.int 0) ∧ os = [] ∧ h = h') := by
  refine wkM.of #[.val (.ref b), .val (.int (Int32.ofNat n))] (plainFor_of_name (by first | (simp [plainName, overriddenIn]; done) | decide +kernel)) (fun m => by first | rfl | (simp [entryFrame, mkF, argsToLocals, Value.category]; done)) ?_
  refine wkP.iloadN 1 dcodL_0 rfl rfl ?_
  refine wkP.aloadN 2 dcodL_1 rfl rfl rfl ?_
  refine wkP.alen 3 (Int32.ofNat n) F dcodL_2 (by rw [hn]) rfl ?_
  refine wkP.isub 4 (0 : Int32) dcodL_3 (by simp) rfl ?_
  refine wkP.bipush 6 (31 : Int32) dcodL_4 rfl rfl ?_
  refine wkP.iushr 7 (0 : Int32) dcodL_6 (by decide) rfl ?_
  refine wkP.i2b 8 (0 : Int32) dcodL_7 (by decide) rfl ?_
  exact wkP.retI .byte [] g.2.1 dcodL_8 rfl (by simp) rfl (by decide) (by decide) (by simp) ⟨rfl, rfl, rfl⟩
theorem sub2 {n : Nat} (h : 2 * n < 2 ^ 31) : Int32.ofNat n - Int32.ofNat (2 * n) = -(Int32.ofNat n) := by
  have h1 := c_isub (Int32.ofNat n) (Int32.ofNat (2 * n))
  have h2 := c_ineg (Int32.ofNat n)
  have h3 := rng32 (Int32.ofNat n - Int32.ofNat (2 * n))
  have h4 := rng32 (-(Int32.ofNat n))
  rw [toI h, toI (show n < 2 ^ 31 by omega)] at h1
  rw [toI (show n < 2 ^ 31 by omega)] at h2
  rw [← Int32.toInt_inj]; omega
theorem neg31 {n : Nat} (h : 2 * n < 2 ^ 31) (h0 : n ≠ 0) : ((-(Int32.ofNat n)).toUInt32 >>> ((31 : Int32) &&& 31).toUInt32).toInt32 = 1 := by
  have h1 : (((-(Int32.ofNat n)).toUInt32 >>> ((31 : Int32) &&& 31).toUInt32).toInt32).toInt = ((-(Int32.ofNat n)).toInt % 4294967296) / 2147483648 := c_iushr (-(Int32.ofNat n)) 31 31 (by decide) (by decide)
  have h2 := c_ineg (Int32.ofNat n)
  have h4 := rng32 (-(Int32.ofNat n))
  rw [toI (show n < 2 ^ 31 by omega)] at h2
  rw [← Int32.toInt_inj, h1, show (1 : Int32).toInt = 1 from rfl]; omega
set_option maxRecDepth 65536 in
set_option maxHeartbeats 4000000 in
theorem M_codU (l : Launch) (Z : State) (a0 : Array Value) (g : G Z a0) (h : Heap) (b : Addr) (ys : List Int32) (n : Nat) (F : Ia Z h b .byte ys) (hn : ys.length = 2 * n) (h0 : n ≠ 0) : wkM l Z bcodL rcodL #[.ref b, .int (Int32.ofNat n)] h [] (fun v h' os => v = some (.int 1) ∧ os = [] ∧ h = h') := by
  refine wkM.of #[.val (.ref b), .val (.int (Int32.ofNat n))] (plainFor_of_name (by first | (simp [plainName, overriddenIn]; done) | decide +kernel)) (fun m => by first | rfl | (simp [entryFrame, mkF, argsToLocals, Value.category]; done)) ?_
  refine wkP.iloadN 1 dcodL_0 rfl rfl ?_
  refine wkP.aloadN 2 dcodL_1 rfl rfl rfl ?_
  refine wkP.alen 3 (Int32.ofNat (2 * n)) F dcodL_2 (by rw [hn]) rfl ?_
  refine wkP.isub 4 (-(Int32.ofNat n)) dcodL_3 (sub2 (by have := F.len; omega)) rfl ?_
  refine wkP.bipush 6 (31 : Int32) dcodL_4 rfl rfl ?_
  refine wkP.iushr 7 (1 : Int32) dcodL_6 (neg31 (by have := F.len; omega) h0) rfl ?_
  refine wkP.i2b 8 (1 : Int32) dcodL_7 (by decide) rfl ?_
  exact wkP.retI .byte [] g.2.1 dcodL_8 rfl (by simp) rfl (by decide) (by decide) (by simp) ⟨rfl, rfl, rfl⟩
abbrev rnbl : Room := { frames := 0, cells := 0, slots := 0, locals := 0 }
set_option maxRecDepth 65536 in
set_option maxHeartbeats 4000000 in
theorem M_nbl (l : Launch) (Z : State) (a0 : Array Value) (g : G Z a0) (h : Heap) (n : Nat) (hn : n < 1000000) : wkM l Z bnbl rnbl #[.int (Int32.ofNat n)] h [] (fun v h' os => v = some (.int (Int32.ofNat (2 * n))) ∧ os = [] ∧ h = h') := by
  refine wkM.of #[.val (.int (Int32.ofNat n))] (plainFor_of_name (by first | (simp [plainName, overriddenIn]; done) | decide +kernel)) (fun m => by first | rfl | (simp [entryFrame, mkF, argsToLocals, Value.category]; done)) ?_
  refine wkP.iloadN 1 dnbl_0 rfl rfl ?_
  refine wkP.ifT 12 dnbl_1 (show ¬ (Int32.ofNat n) < (0 : Int32) from (nn_of (by omega))) (by decide) (by decide) ?_
  refine wkP.iloadN 13 dnbl_12 rfl rfl ?_
  refine wkP.ldcI 15 (w259 g.1) dnbl_13 rfl ?_
  refine wkP.icmpT 55 dnbl_15 (show (Int32.ofNat n) < (1073741823 : Int32) from (by rw [Int32.lt_iff_toInt_lt, toI (show n < 2 ^ 31 by omega)]; simp only [Int32.reduceToInt]; omega)) (by decide) (by decide) ?_
  refine wkP.iloadN 56 dnbl_55 rfl rfl ?_
  refine wkP.iconst 57 (1 : Int32) dnbl_56 rfl rfl ?_
  refine wkP.ishl 58 (Int32.ofNat (2 * n)) dnbl_57 (shl1 (by omega)) rfl ?_
  exact wkP.retI .int [] g.2.1 dnbl_58 rfl (by simp) rfl (by decide) (by decide) (by simp) ⟨rfl, rfl, rfl⟩
abbrev rnbf : Room := { frames := 1, cells := 1, slots := 32, locals := 12 }
set_option maxRecDepth 65536 in
set_option maxHeartbeats 4000000 in
theorem M_nbf (l : Launch) (Z : State) (a0 : Array Value) (g : G Z a0) (h : Heap) (n : Nat) (hn : n ≤ 16) : wkM l Z bnbf rnbf #[.int (Int32.ofNat n)] h [] (fun v h' os => ∃ d, v = some (.ref d) ∧ h.size ≤ d ∧ os = [d] ∧ Ia Z h' d .byte (List.replicate (2 * n) 0)) := by
  refine wkM.of #[.val (.int (Int32.ofNat n))] (plainFor_of_name (by first | (simp [plainName, overriddenIn]; done) | decide +kernel)) (fun m => by first | rfl | (simp [entryFrame, mkF, argsToLocals, Value.category]; done)) ?_
  refine wkP.iloadN 1 dnbf_0 rfl rfl ?_
  refine wkP.callS 4 (M_nbl l Z a0 g _ n (by omega)) [(.int (Int32.ofNat n))] [] 0 g.2.1 (w256 g.1) (w257 g.1) (w245 g.1) (w258 g.1) (by decide) dnbf_1 (lenOf pd0 rfl) rfl rfl rfl (by simp) (Nat.le_of_eq rfl) (by decide) (by decide) (by decide) (by decide) rfl ?_
  rintro v2 _ o2 ⟨rfl, rfl, rfl⟩ K2
  refine wkP.newP 6 .byte (2 * n) 32 (w16 g.1) rfl rfl rfl dnbf_4 (toI (by omega)) (by omega) (by decide) (by decide) (by decide) rfl ?_
  intro h3 a3 g3 l3 K3 A3
  have z3 := K3.1
  exact wkP.retA (.array .byte) [a3] g.2.1 dnbf_6 rfl rfl (by decide) (by decide) (by simp) ⟨a3, rfl, by omega, rfl, A3⟩
abbrev rulen : Room := { frames := 0, cells := 0, slots := 0, locals := 0 }
set_option maxRecDepth 65536 in
set_option maxHeartbeats 4000000 in
theorem M_ulen (l : Launch) (Z : State) (a0 : Array Value) (g : G Z a0) (h : Heap) (d : Addr) (ys : List Int32) (n : Nat) (F : Ia Z h d .byte ys) (hn : ys.length = 2 * n) : wkM l Z bulen rulen #[.ref d] h [] (fun v h' os => v = some (.int (Int32.ofNat n)) ∧ os = [] ∧ h = h') := by
  refine wkM.of #[.val (.ref d)] (plainFor_of_name (by first | (simp [plainName, overriddenIn]; done) | decide +kernel)) (fun m => by first | rfl | (simp [entryFrame, mkF, argsToLocals, Value.category]; done)) ?_
  refine wkP.aloadN 1 dulen_0 rfl rfl rfl ?_
  refine wkP.alen 2 (Int32.ofNat (2 * n)) F dulen_1 (by rw [hn]) rfl ?_
  refine wkP.iconst 3 (1 : Int32) dulen_2 rfl rfl ?_
  refine wkP.ishr 4 (Int32.ofNat n) dulen_3 (shr1 (by have := F.len; omega)) rfl ?_
  exact wkP.retI .int [] g.2.1 dulen_4 rfl (by simp) rfl (by decide) (by decide) (by simp) ⟨rfl, rfl, rfl⟩
abbrev rputC : Room := { frames := 0, cells := 0, slots := 0, locals := 0 }
set_option maxRecDepth 65536 in
set_option maxHeartbeats 4000000 in
theorem M_putC (l : Launch) (Z : State) (a0 : Array Value) (g : G Z a0) (h : Heap) (d : Addr) (ys : List Int32) (i : Nat) (c : Int32) (F : Ia Z h d .byte ys) (hi : 2 * i + 1 < ys.length) : wkM l Z bputC rputC #[.ref d, .int (Int32.ofNat i), .int c] h [d] (fun v h' os => v = none ∧ os = [] ∧ Ia Z h' d .byte ((ys.set (2 * i) (lo8 c)).set (2 * i + 1) (hi8 c))) := by
  refine wkM.of #[.val (.ref d), .val (.int (Int32.ofNat i)), .val (.int c)] (plainFor_of_name (by first | (simp [plainName, overriddenIn]; done) | decide +kernel)) (fun m => by first | rfl | (simp [entryFrame, mkF, argsToLocals, Value.category]; done)) ?_
  refine wkP.getS 3 (w263 g.1) g.2.2.2.2.1 Via.refl dputC_0 rfl ?_
  refine wkP.ifT 28 dputC_3 (show ¬ (1 : Int32) = (0 : Int32) from (by decide)) (by decide) (by decide) ?_
  refine wkP.iloadN 29 dputC_28 rfl rfl ?_
  refine wkP.iconst 30 (1 : Int32) dputC_29 rfl rfl ?_
  refine wkP.ishl 31 (Int32.ofNat (2 * i)) dputC_30 (shl1 (by have := F.len; omega)) rfl ?_
  refine wkP.istoreN 32 #[.val (.ref d), .val (.int (Int32.ofNat (2 * i))), .val (.int c)] dputC_31 rfl rfl ?_
  refine wkP.aloadN 33 dputC_32 rfl rfl rfl ?_
  refine wkP.iloadN 34 dputC_33 rfl rfl ?_
  refine wkP.iinc 37 (Int32.ofNat (2 * i + 1)) #[.val (.ref d), .val (.int (Int32.ofNat (2 * i + 1))), .val (.int c)] dputC_34 rfl (inc1 _) rfl rfl ?_
  refine wkP.iloadN 38 dputC_37 rfl rfl ?_
  refine wkP.getS 41 (w264 g.1) g.2.2.2.2.2.1 Via.refl dputC_38 rfl ?_
  refine wkP.ishr 42 c dputC_41 (shr0 c) rfl ?_
  refine wkP.i2b 43 (lo8 c) dputC_42 rfl rfl ?_
  refine wkP.stB 44 (2 * i) (lo8 c) F dputC_43 (toI (by have := F.len; omega)) (by omega) (nar_lo8 c) (by simp) rfl ?_
  intro h1 K1 A1
  refine wkP.aloadN 45 dputC_44 rfl rfl rfl ?_
  refine wkP.iloadN 46 dputC_45 rfl rfl ?_
  refine wkP.iloadN 47 dputC_46 rfl rfl ?_
  refine wkP.getS 50 (w265 g.1) g.2.2.2.2.2.2 Via.refl dputC_47 rfl ?_
  refine wkP.ishr 51 (c >>> ((8 : Int32) &&& 31)) dputC_50 rfl rfl ?_
  refine wkP.i2b 52 (hi8 c) dputC_51 rfl rfl ?_
  refine wkP.stB 53 (2 * i + 1) (hi8 c) A1 dputC_52 (toI (by have := F.len; omega)) (by simp; omega) (nar_hi8 c) (by simp) rfl ?_
  intro h2 K2 A2
  exact wkP.ret0 [] g.2.1 dputC_53 rfl (by decide) (by decide) (by simp) ⟨rfl, rfl, A2⟩
abbrev rgetC : Room := { frames := 0, cells := 0, slots := 0, locals := 0 }
set_option maxRecDepth 65536 in
set_option maxHeartbeats 4000000 in
theorem M_getC (l : Launch) (Z : State) (a0 : Array Value) (g : G Z a0) (h : Heap) (d : Addr) (cs : List Int32) (i : Nat) (c : Int32) (F : Ia Z h d .byte (u16 cs)) (hc : cs[i]? = some c) (hch : ¬ c < 0 ∧ ¬ 65535 < c) : wkM l Z bgetC rgetC #[.ref d, .int (Int32.ofNat i)] h [] (fun v h' os => v = some (.int c) ∧ os = [] ∧ h = h') := by
  refine wkM.of #[.val (.ref d), .val (.int (Int32.ofNat i))] (plainFor_of_name (by first | (simp [plainName, overriddenIn]; done) | decide +kernel)) (fun m => by first | rfl | (simp [entryFrame, mkF, argsToLocals, Value.category]; done)) ?_
  have hi : i < cs.length := (List.getElem?_eq_some_iff.mp hc).1
  have hL := F.len
  rw [u16_len] at hL
  obtain ⟨q1, q2⟩ := u16_at cs i c hc
  refine wkP.getS 3 (w263 g.1) g.2.2.2.2.1 Via.refl dgetC_0 rfl ?_
  refine wkP.ifT 28 dgetC_3 (show ¬ (1 : Int32) = (0 : Int32) from (by decide)) (by decide) (by decide) ?_
  refine wkP.iloadN 29 dgetC_28 rfl rfl ?_
  refine wkP.iconst 30 (1 : Int32) dgetC_29 rfl rfl ?_
  refine wkP.ishl 31 (Int32.ofNat (2 * i)) dgetC_30 (shl1 (by omega)) rfl ?_
  refine wkP.istoreN 32 #[.val (.ref d), .val (.int (Int32.ofNat (2 * i)))] dgetC_31 rfl rfl ?_
  refine wkP.aloadN 33 dgetC_32 rfl rfl rfl ?_
  refine wkP.iloadN 34 dgetC_33 rfl rfl ?_
  refine wkP.iinc 37 (Int32.ofNat (2 * i + 1)) #[.val (.ref d), .val (.int (Int32.ofNat (2 * i + 1)))] dgetC_34 rfl (inc1 _) rfl rfl ?_
  refine wkP.baload 38 (2 * i) (lo8 c) F dgetC_37 (toI (by omega)) q1 rfl ?_
  refine wkP.sipush 41 (255 : Int32) dgetC_38 rfl rfl ?_
  refine wkP.iand 42 ((lo8 c) &&& (255 : Int32)) dgetC_41 rfl rfl ?_
  refine wkP.getS 45 (w264 g.1) g.2.2.2.2.2.1 Via.refl dgetC_42 rfl ?_
  refine wkP.ishl 46 ((lo8 c) &&& (255 : Int32)) dgetC_45 (shl0 _) rfl ?_
  refine wkP.aloadN 47 dgetC_46 rfl rfl rfl ?_
  refine wkP.iloadN 48 dgetC_47 rfl rfl ?_
  refine wkP.baload 49 (2 * i + 1) (hi8 c) F dgetC_48 (toI (by omega)) q2 rfl ?_
  refine wkP.sipush 52 (255 : Int32) dgetC_49 rfl rfl ?_
  refine wkP.iand 53 ((hi8 c) &&& (255 : Int32)) dgetC_52 rfl rfl ?_
  refine wkP.getS 56 (w265 g.1) g.2.2.2.2.2.2 Via.refl dgetC_53 rfl ?_
  refine wkP.ishl 57 (((hi8 c) &&& (255 : Int32)) <<< ((8 : Int32) &&& 31)) dgetC_56 rfl rfl ?_
  refine wkP.ior 58 (((lo8 c) &&& (255 : Int32)) ||| (((hi8 c) &&& (255 : Int32)) <<< ((8 : Int32) &&& 31))) dgetC_57 rfl rfl ?_
  refine wkP.i2c 59 c dgetC_58 (u16_get hch) rfl ?_
  exact wkP.retI .char [] g.2.1 dgetC_59 rfl (by simp) (by show Value.int (nar .char c) = _; rw [nar_c hch]) (by decide) (by decide) (by simp) ⟨rfl, rfl, rfl⟩
abbrev rtoBy : Room := { frames := 2, cells := 1, slots := 32, locals := 24 }
set_option maxRecDepth 65536 in
set_option maxHeartbeats 4000000 in
theorem L_toBy (l : Launch) (Z : State) (a0 : Array Value) (g : G Z a0) (hs : Heap) (b d : Addr) (cs : List Int32) (hbd : @Ne Nat b d) (hl31 : cs.length < 2 ^ 31) (gd : hs.size ≤ d) : ∀ (r i : Nat) (h : Heap) (ds : List Int32), i + r = cs.length → Ia Z h b .char cs → Ia Z h d .byte ds → ds.length = 2 * cs.length → (∀ j, j < i → ∃ c, cs[j]? = some c ∧ ds[2 * j]? = some (lo8 c) ∧ ds[2 * j + 1]? = some (hi8 c)) →
    wkP l Z btoBy rtoBy hs [] (fun v h' os => ∃ d, v = some (.ref d) ∧ hs.size ≤ d ∧ os = [d] ∧ Ia Z h' d .byte (u16 cs)) [d] h 1 32 8 #[.val (.ref b), .val (.int (Int32.ofNat i)), .val (.int (Int32.ofNat cs.length)), .val (.ref d), .val (.int (Int32.ofNat i))] [] := by
  intro r
  induction r with
  | zero =>
    intro i h ds hir F D hds hj
    have hi31 : i < 2 ^ 31 := by omega
    refine wkP.iload 10 dtoBy_8 rfl rfl ?_
    refine wkP.iloadN 11 dtoBy_10 rfl rfl ?_
    refine wkP.icmpT 32 dtoBy_11 (show ¬ (Int32.ofNat i) < (Int32.ofNat cs.length) from (by rw [ofNat_lt hi31 hl31]; omega)) (by decide) (by decide) ?_
    refine wkP.aloadN 33 dtoBy_32 rfl rfl rfl ?_
    have e : ds = u16 cs := u16_ext hds (fun j hj1 => hj j (by omega))
    subst e
    exact wkP.retA (.array .byte) [d] g.2.1 dtoBy_33 rfl rfl (by decide) (by decide) (by simp) ⟨d, rfl, gd, rfl, D⟩
  | succ r ih =>
    intro i h ds hir F D hds hj
    have hi31 : i < 2 ^ 31 := by omega
    refine wkP.iload 10 dtoBy_8 rfl rfl ?_
    refine wkP.iloadN 11 dtoBy_10 rfl rfl ?_
    refine wkP.icmpF 14 dtoBy_11 (show ¬ (¬ (Int32.ofNat i) < (Int32.ofNat cs.length)) from (fun q => q ((ofNat_lt hi31 hl31).mpr (by omega)))) rfl ?_
    refine wkP.aloadN 15 dtoBy_14 rfl rfl rfl ?_
    refine wkP.iload 17 dtoBy_15 rfl rfl ?_
    refine wkP.aloadN 18 dtoBy_17 rfl rfl rfl ?_
    refine wkP.iloadN 19 dtoBy_18 rfl rfl ?_
    obtain ⟨c, hc⟩ : ∃ c, cs[i]? = some c := ⟨_, List.getElem?_eq_getElem (show i < cs.length by omega)⟩
    refine wkP.caload 20 i c F dtoBy_19 (toI hi31) hc rfl ?_
    refine wkP.callS 23 (M_putC l Z a0 g _ d ds i c D (by omega)) [(.ref d), (.int (Int32.ofNat i)), (.int c)] [] 0 g.2.1 (w260 g.1) (w261 g.1) (w245 g.1) (w262 g.1) (by decide) dtoBy_20 (lenOf pd2 rfl) rfl rfl rfl (by simp) (Nat.le_of_eq rfl) (by decide) (by decide) (by decide) (by decide) rfl ?_
    rintro v6 h6 o6 ⟨rfl, rfl, A6⟩ K6
    have z6 := K6.1
    refine wkP.iinc 26 (Int32.ofNat (i + 1)) #[.val (.ref b), .val (.int (Int32.ofNat (i + 1))), .val (.int (Int32.ofNat cs.length)), .val (.ref d), .val (.int (Int32.ofNat i))] dtoBy_23 rfl (inc1 i) rfl rfl ?_
    refine wkP.iinc 29 (Int32.ofNat (i + 1)) #[.val (.ref b), .val (.int (Int32.ofNat (i + 1))), .val (.int (Int32.ofNat cs.length)), .val (.ref d), .val (.int (Int32.ofNat (i + 1)))] dtoBy_26 rfl (inc1 i) rfl rfl ?_
    refine wkP.goto 8 dtoBy_29 (by decide) (by decide) ?_
    refine ih (i + 1) _ _ (by omega) (F.keep K6 (nn1 hbd)) A6 (by simpa using hds) ?_
    intro j hj1
    by_cases hji : j = i
    · subst hji; refine ⟨c, hc, ?_, ?_⟩
      · rw [List.getElem?_set_ne (by omega), List.getElem?_set_self (by omega)]
      · rw [List.getElem?_set_self (by simp; omega)]
    · obtain ⟨c', q1, q2, q3⟩ := hj j (by omega)
      exact ⟨c', q1, by rw [List.getElem?_set_ne (by omega), List.getElem?_set_ne (by omega)]; exact q2, by rw [List.getElem?_set_ne (by omega), List.getElem?_set_ne (by omega)]; exact q3⟩
set_option maxRecDepth 65536 in
set_option maxHeartbeats 4000000 in
theorem M_toBy (l : Launch) (Z : State) (a0 : Array Value) (g : G Z a0) (h : Heap) (b : Addr) (cs : List Int32) (F : Ia Z h b .char cs) (hcap : cs.length ≤ 16) : wkM l Z btoBy rtoBy #[.ref b, .int 0, .int (Int32.ofNat cs.length)] h [] (fun v h' os => ∃ d, v = some (.ref d) ∧ h.size ≤ d ∧ os = [d] ∧ Ia Z h' d .byte (u16 cs)) := by
  refine wkM.of #[.val (.ref b), .val (.int (0 : Int32)), .val (.int (Int32.ofNat cs.length)), .unset, .unset] (plainFor_of_name (by first | (simp [plainName, overriddenIn]; done) | decide +kernel)) (fun m => by first | rfl | (simp [entryFrame, mkF, argsToLocals, Value.category]; done)) ?_
  refine wkP.iloadN 1 dtoBy_0 rfl rfl ?_
  refine wkP.callS 4 (M_nbf l Z a0 g _ cs.length (by omega)) [(.int (Int32.ofNat cs.length))] [] 0 g.2.1 (w253 g.1) (w254 g.1) (w245 g.1) (w255 g.1) (by decide) dtoBy_1 (lenOf pd1 rfl) rfl rfl rfl (by simp) (Nat.le_of_eq rfl) (by decide) (by decide) (by decide) (by decide) rfl ?_
  rintro v4 h4 o4 ⟨d, rfl, gd, rfl, A4⟩ K4
  have z4 := K4.1
  refine wkP.astoreN 5 #[.val (.ref b), .val (.int (0 : Int32)), .val (.int (Int32.ofNat cs.length)), .val (.ref d), .unset] dtoBy_4 rfl rfl rfl ?_
  refine wkP.iconst 6 (0 : Int32) dtoBy_5 rfl rfl ?_
  refine wkP.istore 8 #[.val (.ref b), .val (.int (0 : Int32)), .val (.int (Int32.ofNat cs.length)), .val (.ref d), .val (.int (0 : Int32))] dtoBy_6 rfl rfl ?_
  have F_5 := (F.keep K4 nn0)
  exact L_toBy l Z a0 g h b d cs (by have := F.lt; omega) F.len gd cs.length 0 _ _ (by omega) F_5 A4 (by simp) (fun j hj => absurd hj (by omega))
abbrev rcmp3 : Room := { frames := 3, cells := 2, slots := 48, locals := 40 }
set_option maxRecDepth 65536 in
set_option maxHeartbeats 4000000 in
theorem M_cmp3 (l : Launch) (Z : State) (a0 : Array Value) (g : G Z a0) (h : Heap) (b : Addr) (cs : List Int32) (F : Ia Z h b .char cs) (hch : chs cs) (hcap : cs.length ≤ 16) : wkM l Z bcmp3 rcmp3 #[.ref b, .int 0, .int (Int32.ofNat cs.length)] h [] (fun v h' os => ∃ d, v = some (.ref d) ∧ h.size ≤ d ∧ os = [d] ∧ ((lat cs ∧ Ia Z h' d .byte (cs.map lo8)) ∨ (¬ lat cs ∧ Ia Z h' d .byte (u16 cs)))) := by
  refine wkM.of #[.val (.ref b), .val (.int (0 : Int32)), .val (.int (Int32.ofNat cs.length)), .unset, .unset, .unset] (plainFor_of_name (by first | (simp [plainName, overriddenIn]; done) | decide +kernel)) (fun m => by first | rfl | (simp [entryFrame, mkF, argsToLocals, Value.category]; done)) ?_
  refine wkP.iloadN 1 dcmp3_0 rfl rfl ?_
  refine wkP.newP 3 .byte cs.length 16 (w16 g.1) rfl rfl rfl dcmp3_1 (toI F.len) (by omega) (by decide) (by decide) (by decide) rfl ?_
  intro h7 a7 g7 l7 K7 A7
  have z7 := K7.1
  refine wkP.astoreN 4 #[.val (.ref b), .val (.int (0 : Int32)), .val (.int (Int32.ofNat cs.length)), .val (.ref a7), .unset, .unset] dcmp3_3 rfl rfl rfl ?_
  refine wkP.aloadN 5 dcmp3_4 rfl rfl rfl ?_
  refine wkP.iloadN 6 dcmp3_5 rfl rfl ?_
  refine wkP.aloadN 7 dcmp3_6 rfl rfl rfl ?_
  refine wkP.iconst 8 (0 : Int32) dcmp3_7 rfl rfl ?_
  refine wkP.iloadN 9 dcmp3_8 rfl rfl ?_
  have F_8 := (F.keep K7 nn0)
  refine wkP.callS 12 (M_cmp5 l Z a0 g _ b a7 cs _ F_8 A7 (by simp)) [(.ref b), (.int (0 : Int32)), (.ref a7), (.int (0 : Int32)), (.int (Int32.ofNat cs.length))] [] 0 g.2.1 (w247 g.1) (w248 g.1) (w245 g.1) (w249 g.1) (by decide) dcmp3_9 (lenOf pd3 rfl) rfl rfl rfl (by simp) (Nat.le_of_eq rfl) (by decide) (by decide) (by decide) (by decide) rfl ?_
  rintro v9 h9 o9 ⟨i, ys, hi, rfl, rfl, A9, hy, hj, hno⟩ K9
  have z9 := K9.1
  have hlb := F.lt
  refine wkP.istore 14 #[.val (.ref b), .val (.int (0 : Int32)), .val (.int (Int32.ofNat cs.length)), .val (.ref a7), .val (.int (Int32.ofNat i)), .unset] dcmp3_12 rfl rfl ?_
  refine wkP.iload 16 dcmp3_14 rfl rfl ?_
  refine wkP.iloadN 17 dcmp3_16 rfl rfl ?_
  by_cases hil : i = cs.length
  · refine wkP.icmpT 57 dcmp3_17 (show (Int32.ofNat i) = (Int32.ofNat cs.length) from (by rw [hil])) (by decide) (by decide) ?_
    have hlat : lat cs := by
      intro c hc
      obtain ⟨j, hjl, rfl⟩ := List.getElem_of_mem hc
      obtain ⟨c', c1, c2, -⟩ := hj j (by omega)
      rw [List.getElem?_eq_getElem hjl] at c1; cases c1; exact ⟨(hch _ hc).1, c2⟩
    have hys : ys = cs.map lo8 := by
      refine List.ext_getElem? fun j => ?_
      rcases Nat.lt_or_ge j cs.length with q | q
      · obtain ⟨c, c1, -, c2⟩ := hj j (by omega); rw [c2]; simp [c1]
      · rw [List.getElem?_eq_none (by omega), List.getElem?_eq_none (by simpa using q)]
    subst hys
    refine wkP.aloadN 58 dcmp3_57 rfl rfl rfl ?_
    exact wkP.retA (.array .byte) [a7] g.2.1 dcmp3_58 rfl rfl (by decide) (by decide) (by simp) ⟨a7, rfl, by omega, rfl, Or.inl ⟨hlat, A9⟩⟩
  · refine wkP.icmpF 20 dcmp3_17 (show ¬ ((Int32.ofNat i) = (Int32.ofNat cs.length)) from (fun q => hil ((ofNat_inj (show i < 2 ^ 31 by have := F.len; omega) F.len).mp q))) rfl ?_
    obtain ⟨c, hc, hc2⟩ := hno (by omega)
    have hlat : ¬ lat cs := fun q => (q c (List.mem_of_getElem? hc)).2 hc2
    refine wkP.aloadN 21 dcmp3_20 rfl rfl rfl ?_
    refine wkP.iloadN 22 dcmp3_21 rfl rfl ?_
    refine wkP.iloadN 23 dcmp3_22 rfl rfl ?_
    have F_10 := (F_8.keep K9 (nnS (by omega) nn0))
    refine wkP.callS 26 (M_toBy l Z a0 g _ b cs F_10 hcap) [(.ref b), (.int (0 : Int32)), (.int (Int32.ofNat cs.length))] [] 0 g.2.1 (w250 g.1) (w251 g.1) (w245 g.1) (w252 g.1) (by decide) dcmp3_23 (lenOf pd4 rfl) rfl rfl rfl (by simp) (Nat.le_of_eq rfl) (by decide) (by decide) (by decide) (by decide) rfl ?_
    rintro v11 h11 o11 ⟨u, rfl, gu, rfl, A11⟩ K11
    have z11 := K11.1
    refine wkP.astore 28 #[.val (.ref b), .val (.int (0 : Int32)), .val (.int (Int32.ofNat cs.length)), .val (.ref a7), .val (.int (Int32.ofNat i)), .val (.ref u)] dcmp3_26 rfl rfl rfl ?_
    refine wkP.aload 30 dcmp3_28 rfl rfl rfl ?_
    refine wkP.iload 32 dcmp3_30 rfl rfl ?_
    refine wkP.callS 35 (M_getC l Z a0 g _ u cs i c A11 hc (hch c (List.mem_of_getElem? hc))) [(.ref u), (.int (Int32.ofNat i))] [] 0 g.2.1 (w266 g.1) (w267 g.1) (w245 g.1) (w268 g.1) (by decide) dcmp3_32 (lenOf pd5 rfl) rfl rfl rfl (by simp) (Nat.le_of_eq rfl) (by decide) (by decide) (by decide) (by decide) rfl ?_
    rintro v12 _ o12 ⟨rfl, rfl, rfl⟩ K12
    refine wkP.sipush 38 (255 : Int32) dcmp3_35 rfl rfl ?_
    refine wkP.icmpT 54 dcmp3_38 (show (255 : Int32) < c from hc2) (by decide) (by decide) ?_
    refine wkP.aload 56 dcmp3_54 rfl rfl rfl ?_
    exact wkP.retA (.array .byte) [u] g.2.1 dcmp3_56 rfl rfl (by decide) (by decide) (by simp) ⟨u, rfl, by omega, rfl, Or.inr ⟨hlat, A11⟩⟩
abbrev rinit4 : Room := { frames := 4, cells := 4, slots := 48, locals := 57 }
set_option maxRecDepth 65536 in
set_option maxHeartbeats 4000000 in
theorem M_init4 (l : Launch) (Z : State) (a0 : Array Value) (g : G Z a0) (h : Heap) (a b : Addr) (cs : List Int32) (F : Ia Z h b .char cs) (hch : chs cs) (hcap : cs.length ≤ 16) (vc vv : Value) (E : Exa Z h a "java/lang/String") (FC : Fld Z h a "java/lang/String" "coder" "B" vc) (FV : Fld Z h a "java/lang/String" "value" "[B" vv) : wkM l Z binit4 rinit4 #[.ref a, .ref b, .int 0, .int (Int32.ofNat cs.length), .null] h [a] (fun v h' os => ∃ d, v = none ∧ os = [] ∧ St Z h' a d cs) := by
  refine wkM.of #[.val (.ref a), .val (.ref b), .val (.int (0 : Int32)), .val (.int (Int32.ofNat cs.length)), .val .null, .unset] (plainFor_of_name (by first | (simp [plainName, overriddenIn]; done) | decide +kernel)) (fun m => by first | rfl | (simp [entryFrame, mkF, argsToLocals, Value.category]; done)) ?_
  obtain ⟨zc, hzc, hzn⟩ := g.2.2.1
  have la := exaLt E
  refine wkP.aloadN 1 dinit4_0 rfl rfl rfl ?_
  refine wkP.initO 4 (w12 g.1) (w13 g.1) (w14 g.1) dinit4_1 rfl (by decide) 0 (Nat.le_of_eq rfl) (by decide) rfl ?_
  refine wkP.iloadN 5 dinit4_4 rfl rfl ?_
  by_cases hne : cs.length = 0
  · refine wkP.ifF 8 dinit4_5 (show ¬ (¬ (Int32.ofNat cs.length) = (0 : Int32)) from (fun q => q (by rw [hne]; rfl))) rfl ?_
    obtain rfl : cs = [] := List.length_eq_zero_iff.mp hne
    refine wkP.aloadN 9 dinit4_8 rfl rfl rfl ?_
    refine wkP.ldc 11 ([] : List Int32) 0 (w15 g.1) (sAtoms g.1) g.2.1 (by decide) (by decide) rfl (by decide) dinit4_9 (by decide) (by decide) (by decide) (by decide) rfl ?_
    intro h13 a13 b13 K13 E13 C13 V13 A13 ne13
    have z13 := K13.1
    have la13 := exaLt E13
    have lb13 := A13.lt
    refine wkP.getF 14 (w21 g.1) V13 Via.refl dinit4_11 rfl ?_
    have FV_14 := (FV.keep K13 nn0)
    have E_15 := (E.keep K13)
    have FC_16 := (FC.keep K13 nn0)
    refine wkP.putF 17 (w21 g.1) FV_14 E_15 (Or.inr ⟨(w17 g.1), rfl, rfl⟩) (w2 g.1) (ty := (.array .byte)) (by decide) rfl rfl dinit4_14 (by simp) rfl ?_
    intro h17 K17 W17
    have z17 := K17.1
    have F17 := Fld.same W17 FV_14
    have E17 := Exa.wr W17 E_15
    have F18 := Fld.other W17 FC_16 (Or.inr (slot_ne (t := .byte) (t' := (.array .byte)) (Or.inr (w18 g.1)) (Or.inr (w17 g.1)) (by decide) (by decide) (by decide)))
    refine wkP.aloadN 18 dinit4_17 rfl rfl rfl ?_
    refine wkP.ldc 20 ([] : List Int32) 0 (w15 g.1) (sAtoms g.1) g.2.1 (by decide) (by decide) rfl (by decide) dinit4_18 (by decide) (by decide) (by decide) (by decide) rfl ?_
    intro h19 a19 b19 K19 E19 C19 V19 A19 ne19
    have z19 := K19.1
    have la19 := exaLt E19
    have lb19 := A19.lt
    refine wkP.getF 23 (w22 g.1) C19 Via.refl dinit4_20 rfl ?_
    have F18_20 := (F18.keep K19 nn0)
    have E17_21 := (E17.keep K19)
    have F17_22 := (F17.keep K19 nn0)
    refine wkP.putF 26 (w22 g.1) F18_20 E17_21 (Or.inr ⟨(w18 g.1), rfl, rfl⟩) (w2 g.1) (ty := .byte) (by decide) rfl rfl dinit4_23 (by simp) rfl ?_
    intro h23 K23 W23
    have z23 := K23.1
    have F23 := Fld.same W23 F18_20
    have E23 := Exa.wr W23 E17_21
    have F24 := Fld.other W23 F17_22 (Or.inr (slot_ne (t := (.array .byte)) (t' := .byte) (Or.inr (w17 g.1)) (Or.inr (w18 g.1)) (by decide) (by decide) (by decide)))
    have A13_25 := (((A13.keep K17 (nnS (Ne.symm (ne13 a (by simp)).2) nn0)).keep K19 nn0).keep K23 (nnS (Ne.symm (ne13 a (by simp)).2) nn0))
    exact wkP.ret0 [] g.2.1 dinit4_26 rfl (by decide) (by decide) (by simp) ⟨b13, rfl, rfl, Or.inl ⟨E23, F23, F24, A13_25, fun x hx => by simp at hx⟩⟩
  · refine wkP.ifT 27 dinit4_5 (show ¬ (Int32.ofNat cs.length) = (0 : Int32) from (fun q => hne ((ofNat_inj F.len (by decide)).mp q))) (by decide) (by decide) ?_
    refine wkP.getS 30 (w68 g.1) hzc Via.refl dinit4_27 rfl ?_
    refine wkP.ifF 33 dinit4_30 (show ¬ (zc = (0 : Int32)) from hzn) rfl ?_
    refine wkP.aloadN 34 dinit4_33 rfl rfl rfl ?_
    refine wkP.iloadN 35 dinit4_34 rfl rfl ?_
    refine wkP.iloadN 36 dinit4_35 rfl rfl ?_
    refine wkP.callS 39 (M_cmp3 l Z a0 g _ b cs F hch hcap) [(.ref b), (.int (0 : Int32)), (.int (Int32.ofNat cs.length))] [] 0 g.2.1 (w243 g.1) (w244 g.1) (w245 g.1) (w246 g.1) (by decide) dinit4_36 (lenOf pd4 rfl) rfl rfl rfl (by simp) (Nat.le_of_eq rfl) (by decide) (by decide) (by decide) (by decide) rfl ?_
    rintro v26 h26 o26 ⟨d, rfl, gd, rfl, A26⟩ K26
    have z26 := K26.1
    refine wkP.astore 41 #[.val (.ref a), .val (.ref b), .val (.int (0 : Int32)), .val (.int (Int32.ofNat cs.length)), .val .null, .val (.ref d)] dinit4_39 rfl rfl rfl ?_
    refine wkP.aloadN 42 dinit4_41 rfl rfl rfl ?_
    refine wkP.aload 44 dinit4_42 rfl rfl rfl ?_
    refine wkP.iloadN 45 dinit4_44 rfl rfl ?_
    rcases A26 with ⟨hlat, A26⟩ | ⟨hlat, A26⟩
    · have ld := A26.lt
      have hl2 : (cs.map lo8).length = cs.length := by simp
      refine wkP.callS 48 (M_codL l Z a0 g _ d (cs.map lo8) cs.length A26 hl2) [(.ref d), (.int (Int32.ofNat cs.length))] [(.ref a)] 1 g.2.1 (w269 g.1) (w270 g.1) (w245 g.1) (w271 g.1) (by decide) dinit4_45 (lenOf pd6 rfl) rfl rfl rfl (by simp) (Nat.le_of_eq rfl) (by decide) (by decide) (by decide) (by decide) rfl ?_
      rintro v27 _ o27 ⟨rfl, rfl, rfl⟩ K27
      have FC_28 := (FC.keep K26 nn0)
      have E_29 := (E.keep K26)
      have FV_30 := (FV.keep K26 nn0)
      refine wkP.putF 51 (w22 g.1) FC_28 E_29 (Or.inr ⟨(w18 g.1), rfl, rfl⟩) (w2 g.1) (ty := .byte) (by decide) rfl rfl dinit4_48 (by simp) rfl ?_
      intro h31 K31 W31
      have z31 := K31.1
      have F31 := Fld.same W31 FC_28
      have E31 := Exa.wr W31 E_29
      have F32 := Fld.other W31 FV_30 (Or.inr (slot_ne (t := (.array .byte)) (t' := .byte) (Or.inr (w17 g.1)) (Or.inr (w18 g.1)) (by decide) (by decide) (by decide)))
      refine wkP.aloadN 52 dinit4_51 rfl rfl rfl ?_
      refine wkP.aload 54 dinit4_52 rfl rfl rfl ?_
      refine wkP.putF 57 (w21 g.1) F32 E31 (Or.inr ⟨(w17 g.1), rfl, rfl⟩) (w2 g.1) (ty := (.array .byte)) (by decide) rfl rfl dinit4_54 (by simp) rfl ?_
      intro h33 K33 W33
      have z33 := K33.1
      have F33 := Fld.same W33 F32
      have E33 := Exa.wr W33 E31
      have F34 := Fld.other W33 F31 (Or.inr (slot_ne (t := .byte) (t' := (.array .byte)) (Or.inr (w18 g.1)) (Or.inr (w17 g.1)) (by decide) (by decide) (by decide)))
      have A26_35 := ((A26.keep K31 (nnS (by omega) nn0)).keep K33 (nnS (by omega) nn0))
      exact wkP.ret0 [] g.2.1 dinit4_57 rfl (by decide) (by decide) (by simp) ⟨d, rfl, rfl, Or.inl ⟨E33, F34, F33, A26_35, hlat⟩⟩
    · have ld := A26.lt
      refine wkP.callS 48 (M_codU l Z a0 g _ d (u16 cs) cs.length A26 (u16_len cs) hne) [(.ref d), (.int (Int32.ofNat cs.length))] [(.ref a)] 1 g.2.1 (w269 g.1) (w270 g.1) (w245 g.1) (w271 g.1) (by decide) dinit4_45 (lenOf pd6 rfl) rfl rfl rfl (by simp) (Nat.le_of_eq rfl) (by decide) (by decide) (by decide) (by decide) rfl ?_
      rintro v36 _ o36 ⟨rfl, rfl, rfl⟩ K36
      have FC_37 := (FC.keep K26 nn0)
      have E_38 := (E.keep K26)
      have FV_39 := (FV.keep K26 nn0)
      refine wkP.putF 51 (w22 g.1) FC_37 E_38 (Or.inr ⟨(w18 g.1), rfl, rfl⟩) (w2 g.1) (ty := .byte) (by decide) rfl rfl dinit4_48 (by simp) rfl ?_
      intro h40 K40 W40
      have z40 := K40.1
      have F40 := Fld.same W40 FC_37
      have E40 := Exa.wr W40 E_38
      have F41 := Fld.other W40 FV_39 (Or.inr (slot_ne (t := (.array .byte)) (t' := .byte) (Or.inr (w17 g.1)) (Or.inr (w18 g.1)) (by decide) (by decide) (by decide)))
      refine wkP.aloadN 52 dinit4_51 rfl rfl rfl ?_
      refine wkP.aload 54 dinit4_52 rfl rfl rfl ?_
      refine wkP.putF 57 (w21 g.1) F41 E40 (Or.inr ⟨(w17 g.1), rfl, rfl⟩) (w2 g.1) (ty := (.array .byte)) (by decide) rfl rfl dinit4_54 (by simp) rfl ?_
      intro h42 K42 W42
      have z42 := K42.1
      have F42 := Fld.same W42 F41
      have E42 := Exa.wr W42 E40
      have F43 := Fld.other W42 F40 (Or.inr (slot_ne (t := .byte) (t' := (.array .byte)) (Or.inr (w18 g.1)) (Or.inr (w17 g.1)) (by decide) (by decide) (by decide)))
      have A26_44 := ((A26.keep K40 (nnS (by omega) nn0)).keep K42 (nnS (by omega) nn0))
      exact wkP.ret0 [] g.2.1 dinit4_57 rfl (by decide) (by decide) (by simp) ⟨d, rfl, rfl, Or.inr ⟨E42, F43, F42, A26_44, hch, hlat⟩⟩
abbrev rinit1 : Room := { frames := 5, cells := 4, slots := 48, locals := 74 }
set_option maxRecDepth 65536 in
set_option maxHeartbeats 4000000 in
theorem M_init1 (l : Launch) (Z : State) (a0 : Array Value) (g : G Z a0) (h : Heap) (a b : Addr) (cs : List Int32) (F : Ia Z h b .char cs) (hch : chs cs) (hcap : cs.length ≤ 16) (vc vv : Value) (E : Exa Z h a "java/lang/String") (FC : Fld Z h a "java/lang/String" "coder" "B" vc) (FV : Fld Z h a "java/lang/String" "value" "[B" vv) : wkM l Z binit1 rinit1 #[.ref a, .ref b] h [a] (fun v h' os => ∃ d, v = none ∧ os = [] ∧ St Z h' a d cs) := by
  refine wkM.of #[.val (.ref a), .val (.ref b)] (plainFor_of_name (by first | (simp [plainName, overriddenIn]; done) | decide +kernel)) (fun m => by first | rfl | (simp [entryFrame, mkF, argsToLocals, Value.category]; done)) ?_
  refine wkP.aloadN 1 dinit1_0 rfl rfl rfl ?_
  refine wkP.aloadN 2 dinit1_1 rfl rfl rfl ?_
  refine wkP.iconst 3 (0 : Int32) dinit1_2 rfl rfl ?_
  refine wkP.aloadN 4 dinit1_3 rfl rfl rfl ?_
  refine wkP.alen 5 (Int32.ofNat cs.length) F dinit1_4 rfl rfl ?_
  refine wkP.anull 6 dinit1_5 rfl ?_
  refine wkP.callI 9 (M_init4 l Z a0 g _ a b cs F hch hcap vc vv E FC FV) [(.ref b), (.int (0 : Int32)), (.int (Int32.ofNat cs.length)), .null] [] 0 g.2.1 (w8 g.1) (w9 g.1) (w3 g.1) (w11 g.1) rfl rfl (by decide) dinit1_6 (lenOf pd7 rfl) rfl rfl rfl (by simp) (Nat.le_of_eq rfl) (by decide) (by decide) (by decide) (by decide) rfl ?_
  rintro v45 h45 o45 ⟨d, rfl, rfl, H⟩ K45
  have z45 := K45.1
  exact wkP.ret0 [] g.2.1 dinit1_9 rfl (by decide) (by decide) (by simp) ⟨d, rfl, rfl, H⟩
abbrev rcoder : Room := { frames := 0, cells := 0, slots := 0, locals := 0 }
set_option maxRecDepth 65536 in
set_option maxHeartbeats 4000000 in
theorem M_coderL (l : Launch) (Z : State) (a0 : Array Value) (g : G Z a0) (h : Heap) (a b : Addr) (cs : List Int32) (F : SL Z h a b cs) : wkM l Z bcoder rcoder #[.ref a] h [] (fun v h' os => v = some (.int 0) ∧ os = [] ∧ h = h') := by
  refine wkM.of #[.val (.ref a)] (plainFor_of_name (by first | (simp [plainName, overriddenIn]; done) | decide +kernel)) (fun m => by first | rfl | (simp [entryFrame, mkF, argsToLocals, Value.category]; done)) ?_
  obtain ⟨zc, hzc, hzn⟩ := g.2.2.1
  refine wkP.getS 3 (w68 g.1) hzc Via.refl dcoder_0 rfl ?_
  refine wkP.ifF 6 dcoder_3 (show ¬ (zc = (0 : Int32)) from hzn) rfl ?_
  refine wkP.aloadN 7 dcoder_6 rfl rfl rfl ?_
  refine wkP.getF 10 (w22 g.1) F.2.1 Via.refl dcoder_7 rfl ?_
  refine wkP.goto 14 dcoder_10 (by decide) (by decide) ?_
  exact wkP.retI .byte [] g.2.1 dcoder_14 rfl (by simp) rfl (by decide) (by decide) (by simp) ⟨rfl, rfl, rfl⟩
set_option maxRecDepth 65536 in
set_option maxHeartbeats 4000000 in
theorem M_coderU (l : Launch) (Z : State) (a0 : Array Value) (g : G Z a0) (h : Heap) (a b : Addr) (cs : List Int32) (F : SU Z h a b cs) : wkM l Z bcoder rcoder #[.ref a] h [] (fun v h' os => v = some (.int 1) ∧ os = [] ∧ h = h') := by
  refine wkM.of #[.val (.ref a)] (plainFor_of_name (by first | (simp [plainName, overriddenIn]; done) | decide +kernel)) (fun m => by first | rfl | (simp [entryFrame, mkF, argsToLocals, Value.category]; done)) ?_
  obtain ⟨zc, hzc, hzn⟩ := g.2.2.1
  refine wkP.getS 3 (w68 g.1) hzc Via.refl dcoder_0 rfl ?_
  refine wkP.ifF 6 dcoder_3 (show ¬ (zc = (0 : Int32)) from hzn) rfl ?_
  refine wkP.aloadN 7 dcoder_6 rfl rfl rfl ?_
  refine wkP.getF 10 (w22 g.1) F.2.1 Via.refl dcoder_7 rfl ?_
  refine wkP.goto 14 dcoder_10 (by decide) (by decide) ?_
  exact wkP.retI .byte [] g.2.1 dcoder_14 rfl (by simp) rfl (by decide) (by decide) (by simp) ⟨rfl, rfl, rfl⟩
abbrev risLat : Room := { frames := 0, cells := 0, slots := 0, locals := 0 }
set_option maxRecDepth 65536 in
set_option maxHeartbeats 4000000 in
theorem M_isLatL (l : Launch) (Z : State) (a0 : Array Value) (g : G Z a0) (h : Heap) (a b : Addr) (cs : List Int32) (F : SL Z h a b cs) : wkM l Z bisLat risLat #[.ref a] h [] (fun v h' os => v = some (.int 1) ∧ os = [] ∧ h = h') := by
  refine wkM.of #[.val (.ref a)] (plainFor_of_name (by first | (simp [plainName, overriddenIn]; done) | decide +kernel)) (fun m => by first | rfl | (simp [entryFrame, mkF, argsToLocals, Value.category]; done)) ?_
  obtain ⟨zc, hzc, hzn⟩ := g.2.2.1
  refine wkP.getS 3 (w68 g.1) hzc Via.refl disLat_0 rfl ?_
  refine wkP.ifF 6 disLat_3 (show ¬ (zc = (0 : Int32)) from hzn) rfl ?_
  refine wkP.aloadN 7 disLat_6 rfl rfl rfl ?_
  refine wkP.getF 10 (w22 g.1) F.2.1 Via.refl disLat_7 rfl ?_
  refine wkP.ifF 13 disLat_10 (show ¬ (¬ (0 : Int32) = (0 : Int32)) from (by decide)) rfl ?_
  refine wkP.iconst 14 (1 : Int32) disLat_13 rfl rfl ?_
  refine wkP.goto 18 disLat_14 (by decide) (by decide) ?_
  exact wkP.retI .boolean [] g.2.1 disLat_18 rfl (by simp) rfl (by decide) (by decide) (by simp) ⟨rfl, rfl, rfl⟩
set_option maxRecDepth 65536 in
set_option maxHeartbeats 4000000 in
theorem M_isLatU (l : Launch) (Z : State) (a0 : Array Value) (g : G Z a0) (h : Heap) (a b : Addr) (cs : List Int32) (F : SU Z h a b cs) : wkM l Z bisLat risLat #[.ref a] h [] (fun v h' os => v = some (.int 0) ∧ os = [] ∧ h = h') := by
  refine wkM.of #[.val (.ref a)] (plainFor_of_name (by first | (simp [plainName, overriddenIn]; done) | decide +kernel)) (fun m => by first | rfl | (simp [entryFrame, mkF, argsToLocals, Value.category]; done)) ?_
  obtain ⟨zc, hzc, hzn⟩ := g.2.2.1
  refine wkP.getS 3 (w68 g.1) hzc Via.refl disLat_0 rfl ?_
  refine wkP.ifF 6 disLat_3 (show ¬ (zc = (0 : Int32)) from hzn) rfl ?_
  refine wkP.aloadN 7 disLat_6 rfl rfl rfl ?_
  refine wkP.getF 10 (w22 g.1) F.2.1 Via.refl disLat_7 rfl ?_
  refine wkP.ifT 17 disLat_10 (show ¬ (1 : Int32) = (0 : Int32) from (by decide)) (by decide) (by decide) ?_
  refine wkP.iconst 18 (0 : Int32) disLat_17 rfl rfl ?_
  exact wkP.retI .boolean [] g.2.1 disLat_18 rfl (by simp) rfl (by decide) (by decide) (by simp) ⟨rfl, rfl, rfl⟩
abbrev rlen : Room := { frames := 1, cells := 0, slots := 0, locals := 13 }
set_option maxRecDepth 65536 in
set_option maxHeartbeats 4000000 in
theorem M_len (l : Launch) (Z : State) (a0 : Array Value) (g : G Z a0) (h : Heap) (a b : Addr) (cs : List Int32) (F : St Z h a b cs)  : wkM l Z blen rlen #[.ref a] h [] (fun v h' os => v = some (.int (Int32.ofNat cs.length)) ∧ os = [] ∧ h = h') := by
  refine wkM.of #[.val (.ref a)] (plainFor_of_name (by first | (simp [plainName, overriddenIn]; done) | decide +kernel)) (fun m => by first | rfl | (simp [entryFrame, mkF, argsToLocals, Value.category]; done)) ?_
  rcases F with F | F
  · refine wkP.aloadN 1 dlen_0 rfl rfl rfl ?_
    refine wkP.getF 4 (w21 g.1) F.2.2.1 Via.refl dlen_1 rfl ?_
    have hL := F.2.2.2.1.len
    refine wkP.alen 5 (Int32.ofNat cs.length) F.2.2.2.1 dlen_4 (by simp) rfl ?_
    refine wkP.aloadN 6 dlen_5 rfl rfl rfl ?_
    refine wkP.callV 9 (M_coderL l Z a0 g _ a b cs F) [] [(.int (Int32.ofNat cs.length))] 1 g.2.1 F.1 (wkNFs (w66 g.1)) (w63 g.1) (w64 g.1) (w66 g.1) (w65 g.1) (w3 g.1) (w67 g.1) (by decide) dlen_6 (lenOf pd8 rfl) rfl rfl rfl (by simp) (Nat.le_of_eq rfl) (by decide) (by decide) (by decide) (by decide) rfl ?_
    rintro v46 _ o46 ⟨rfl, rfl, rfl⟩ K46
    refine wkP.ishr 10 (Int32.ofNat cs.length) dlen_9 (shr0 _) rfl ?_
    exact wkP.retI .int [] g.2.1 dlen_10 rfl (by simp) rfl (by decide) (by decide) (by simp) ⟨rfl, rfl, rfl⟩
  · refine wkP.aloadN 1 dlen_0 rfl rfl rfl ?_
    refine wkP.getF 4 (w21 g.1) F.2.2.1 Via.refl dlen_1 rfl ?_
    have hL := F.2.2.2.1.len
    rw [u16_len] at hL
    refine wkP.alen 5 (Int32.ofNat (2 * cs.length)) F.2.2.2.1 dlen_4 (by rw [u16_len]) rfl ?_
    refine wkP.aloadN 6 dlen_5 rfl rfl rfl ?_
    refine wkP.callV 9 (M_coderU l Z a0 g _ a b cs F) [] [(.int (Int32.ofNat (2 * cs.length)))] 1 g.2.1 F.1 (wkNFs (w66 g.1)) (w63 g.1) (w64 g.1) (w66 g.1) (w65 g.1) (w3 g.1) (w67 g.1) (by decide) dlen_6 (lenOf pd8 rfl) rfl rfl rfl (by simp) (Nat.le_of_eq rfl) (by decide) (by decide) (by decide) (by decide) rfl ?_
    rintro v47 _ o47 ⟨rfl, rfl, rfl⟩ K47
    refine wkP.ishr 10 (Int32.ofNat cs.length) dlen_9 (shr1 hL) rfl ?_
    exact wkP.retI .int [] g.2.1 dlen_10 rfl (by simp) rfl (by decide) (by decide) (by simp) ⟨rfl, rfl, rfl⟩
abbrev rpchk : Room := { frames := 0, cells := 0, slots := 0, locals := 0 }
set_option maxRecDepth 65536 in
set_option maxHeartbeats 4000000 in
theorem M_pchk (l : Launch) (Z : State) (a0 : Array Value) (g : G Z a0) (h : Heap) (i n : Nat) (fm : Value) (hr : fm.isRef = true) (hi : i < n) (hn : n < 2 ^ 31) : wkM l Z bpchk rpchk #[.int (Int32.ofNat i), .int (Int32.ofNat n), fm] h [] (fun v h' os => v = some (.int (Int32.ofNat i)) ∧ os = [] ∧ h = h') := by
  obtain rfl | ⟨fa, rfl⟩ := ref_cases hr
  · refine wkM.of #[.val (.int (Int32.ofNat i)), .val (.int (Int32.ofNat n)), .val .null] (plainFor_of_name (by first | (simp [plainName, overriddenIn]; done) | decide +kernel)) (fun m => by first | rfl | (simp [entryFrame, mkF, argsToLocals, Value.category]; done)) ?_
    refine wkP.iloadN 1 dpchk_0 rfl rfl ?_
    refine wkP.ifF 4 dpchk_1 (show ¬ ((Int32.ofNat i) < (0 : Int32)) from (nn_of (by omega))) rfl ?_
    refine wkP.iloadN 5 dpchk_4 rfl rfl ?_
    refine wkP.iloadN 6 dpchk_5 rfl rfl ?_
    refine wkP.icmpT 16 dpchk_6 (show (Int32.ofNat i) < (Int32.ofNat n) from ((ofNat_lt (by omega) hn).mpr hi)) (by decide) (by decide) ?_
    refine wkP.iloadN 17 dpchk_16 rfl rfl ?_
    exact wkP.retI .int [] g.2.1 dpchk_17 rfl (by simp) rfl (by decide) (by decide) (by simp) ⟨rfl, rfl, rfl⟩
  · refine wkM.of #[.val (.int (Int32.ofNat i)), .val (.int (Int32.ofNat n)), .val (.ref fa)] (plainFor_of_name (by first | (simp [plainName, overriddenIn]; done) | decide +kernel)) (fun m => by first | rfl | (simp [entryFrame, mkF, argsToLocals, Value.category]; done)) ?_
    refine wkP.iloadN 1 dpchk_0 rfl rfl ?_
    refine wkP.ifF 4 dpchk_1 (show ¬ ((Int32.ofNat i) < (0 : Int32)) from (nn_of (by omega))) rfl ?_
    refine wkP.iloadN 5 dpchk_4 rfl rfl ?_
    refine wkP.iloadN 6 dpchk_5 rfl rfl ?_
    refine wkP.icmpT 16 dpchk_6 (show (Int32.ofNat i) < (Int32.ofNat n) from ((ofNat_lt (by omega) hn).mpr hi)) (by decide) (by decide) ?_
    refine wkP.iloadN 17 dpchk_16 rfl rfl ?_
    exact wkP.retI .int [] g.2.1 dpchk_17 rfl (by simp) rfl (by decide) (by decide) (by simp) ⟨rfl, rfl, rfl⟩
abbrev rschk : Room := { frames := 1, cells := 0, slots := 0, locals := 14 }
set_option maxRecDepth 65536 in
set_option maxHeartbeats 4000000 in
theorem M_schk (l : Launch) (Z : State) (a0 : Array Value) (g : G Z a0) (h : Heap) (i n : Nat) (hi : i < n) (hn : n < 2 ^ 31) : wkM l Z bschk rschk #[.int (Int32.ofNat i), .int (Int32.ofNat n)] h [] (fun v h' os => v = none ∧ os = [] ∧ h = h') := by
  refine wkM.of #[.val (.int (Int32.ofNat i)), .val (.int (Int32.ofNat n))] (plainFor_of_name (by first | (simp [plainName, overriddenIn]; done) | decide +kernel)) (fun m => by first | rfl | (simp [entryFrame, mkF, argsToLocals, Value.category]; done)) ?_
  obtain ⟨fm, hfm, hr⟩ := g.2.2.2.1
  refine wkP.iloadN 1 dschk_0 rfl rfl ?_
  refine wkP.iloadN 2 dschk_1 rfl rfl ?_
  refine wkP.getS 5 (w223 g.1) hfm Via.refl dschk_2 rfl ?_
  have hcat : fm.category = 1 := by obtain rfl | ⟨_, rfl⟩ := ref_cases hr <;> rfl
  refine wkP.callS 8 (M_pchk l Z a0 g _ i n fm hr hi hn) [(.int (Int32.ofNat i)), (.int (Int32.ofNat n)), fm] [] 0 g.2.1 (w225 g.1) (w226 g.1) (w224 g.1) (w227 g.1) (by decide) dschk_5 (lenOf pd9 rfl) rfl rfl rfl (by simp) (Nat.le_of_eq rfl) (by decide) (by decide) (by decide) (by decide) rfl ?_
  rintro v48 _ o48 ⟨rfl, rfl, rfl⟩ K48
  refine wkP.pop 9 dschk_8 rfl rfl ?_
  exact wkP.ret0 [] g.2.1 dschk_9 rfl (by decide) (by decide) (by simp) ⟨rfl, rfl, rfl⟩
abbrev ruchk : Room := { frames := 2, cells := 0, slots := 0, locals := 27 }
set_option maxRecDepth 65536 in
set_option maxHeartbeats 4000000 in
theorem M_uchk (l : Launch) (Z : State) (a0 : Array Value) (g : G Z a0) (h : Heap) (d : Addr) (ys : List Int32) (i n : Nat) (F : Ia Z h d .byte ys) (hn : ys.length = 2 * n) (hi : i < n) : wkM l Z buchk ruchk #[.int (Int32.ofNat i), .ref d] h [] (fun v h' os => v = none ∧ os = [] ∧ h = h') := by
  refine wkM.of #[.val (.int (Int32.ofNat i)), .val (.ref d)] (plainFor_of_name (by first | (simp [plainName, overriddenIn]; done) | decide +kernel)) (fun m => by first | rfl | (simp [entryFrame, mkF, argsToLocals, Value.category]; done)) ?_
  have hL := F.len
  refine wkP.iloadN 1 duchk_0 rfl rfl ?_
  refine wkP.aloadN 2 duchk_1 rfl rfl rfl ?_
  refine wkP.callS 5 (M_ulen l Z a0 g _ d ys n F hn) [(.ref d)] [(.int (Int32.ofNat i))] 1 g.2.1 (w287 g.1) (w288 g.1) (w245 g.1) (w289 g.1) (by decide) duchk_2 (lenOf pd10 rfl) rfl rfl rfl (by simp) (Nat.le_of_eq rfl) (by decide) (by decide) (by decide) (by decide) rfl ?_
  rintro v49 _ o49 ⟨rfl, rfl, rfl⟩ K49
  refine wkP.callS 8 (M_schk l Z a0 g _ i n hi (by omega)) [(.int (Int32.ofNat i)), (.int (Int32.ofNat n))] [] 0 g.2.1 (w305 g.1) (w221 g.1) (w3 g.1) (w222 g.1) (by decide) duchk_5 (lenOf pd11 rfl) rfl rfl rfl (by simp) (Nat.le_of_eq rfl) (by decide) (by decide) (by decide) (by decide) rfl ?_
  rintro v50 _ o50 ⟨rfl, rfl, rfl⟩ K50
  exact wkP.ret0 [] g.2.1 duchk_8 rfl (by decide) (by decide) (by simp) ⟨rfl, rfl, rfl⟩
abbrev rlch : Room := { frames := 2, cells := 0, slots := 0, locals := 27 }
set_option maxRecDepth 65536 in
set_option maxHeartbeats 4000000 in
theorem M_lch (l : Launch) (Z : State) (a0 : Array Value) (g : G Z a0) (h : Heap) (d : Addr) (cs : List Int32) (i : Nat) (c : Int32) (F : Ia Z h d .byte (cs.map lo8)) (hc : cs[i]? = some c) (hch : ¬ c < 0 ∧ ¬ 255 < c) : wkM l Z blch rlch #[.ref d, .int (Int32.ofNat i)] h [] (fun v h' os => v = some (.int c) ∧ os = [] ∧ h = h') := by
  refine wkM.of #[.val (.ref d), .val (.int (Int32.ofNat i))] (plainFor_of_name (by first | (simp [plainName, overriddenIn]; done) | decide +kernel)) (fun m => by first | rfl | (simp [entryFrame, mkF, argsToLocals, Value.category]; done)) ?_
  have hi : i < cs.length := (List.getElem?_eq_some_iff.mp hc).1
  have hL : cs.length < 2 ^ 31 := by have := F.len; simpa using this
  refine wkP.iloadN 1 dlch_0 rfl rfl ?_
  refine wkP.aloadN 2 dlch_1 rfl rfl rfl ?_
  refine wkP.alen 3 (Int32.ofNat cs.length) F dlch_2 (by simp) rfl ?_
  refine wkP.callS 6 (M_schk l Z a0 g _ i cs.length hi hL) [(.int (Int32.ofNat i)), (.int (Int32.ofNat cs.length))] [] 0 g.2.1 (w220 g.1) (w221 g.1) (w3 g.1) (w222 g.1) (by decide) dlch_3 (lenOf pd11 rfl) rfl rfl rfl (by simp) (Nat.le_of_eq rfl) (by decide) (by decide) (by decide) (by decide) rfl ?_
  rintro v51 _ o51 ⟨rfl, rfl, rfl⟩ K51
  refine wkP.aloadN 7 dlch_6 rfl rfl rfl ?_
  refine wkP.iloadN 8 dlch_7 rfl rfl ?_
  refine wkP.baload 9 i (lo8 c) F dlch_8 (toI (by omega)) (by simp [hc]) rfl ?_
  refine wkP.sipush 12 (255 : Int32) dlch_9 rfl rfl ?_
  refine wkP.iand 13 ((lo8 c) &&& (255 : Int32)) dlch_12 rfl rfl ?_
  refine wkP.i2c 14 c dlch_13 (lat_get hch) rfl ?_
  exact wkP.retI .char [] g.2.1 dlch_14 rfl (by simp) (by show Value.int (nar .char c) = _; rw [nar_c ⟨hch.1, by have := hch.2; simp only [Int32.lt_iff_toInt_lt, Int32.reduceToInt] at this ⊢; omega⟩]) (by decide) (by decide) (by simp) ⟨rfl, rfl, rfl⟩
abbrev ruch : Room := { frames := 3, cells := 0, slots := 0, locals := 40 }
set_option maxRecDepth 65536 in
set_option maxHeartbeats 4000000 in
theorem M_uch (l : Launch) (Z : State) (a0 : Array Value) (g : G Z a0) (h : Heap) (d : Addr) (cs : List Int32) (i : Nat) (c : Int32) (F : Ia Z h d .byte (u16 cs)) (hc : cs[i]? = some c) (hch : ¬ c < 0 ∧ ¬ 65535 < c) : wkM l Z buch ruch #[.ref d, .int (Int32.ofNat i)] h [] (fun v h' os => v = some (.int c) ∧ os = [] ∧ h = h') := by
  refine wkM.of #[.val (.ref d), .val (.int (Int32.ofNat i))] (plainFor_of_name (by first | (simp [plainName, overriddenIn]; done) | decide +kernel)) (fun m => by first | rfl | (simp [entryFrame, mkF, argsToLocals, Value.category]; done)) ?_
  have hi : i < cs.length := (List.getElem?_eq_some_iff.mp hc).1
  refine wkP.iloadN 1 duch_0 rfl rfl ?_
  refine wkP.aloadN 2 duch_1 rfl rfl rfl ?_
  refine wkP.callS 5 (M_uchk l Z a0 g _ d (u16 cs) i cs.length F (u16_len cs) hi) [(.int (Int32.ofNat i)), (.ref d)] [] 0 g.2.1 (w302 g.1) (w303 g.1) (w245 g.1) (w304 g.1) (by decide) duch_2 (lenOf pd12 rfl) rfl rfl rfl (by simp) (Nat.le_of_eq rfl) (by decide) (by decide) (by decide) (by decide) rfl ?_
  rintro v52 _ o52 ⟨rfl, rfl, rfl⟩ K52
  refine wkP.aloadN 6 duch_5 rfl rfl rfl ?_
  refine wkP.iloadN 7 duch_6 rfl rfl ?_
  refine wkP.callS 10 (M_getC l Z a0 g _ d cs i c F hc hch) [(.ref d), (.int (Int32.ofNat i))] [] 0 g.2.1 (w266 g.1) (w267 g.1) (w245 g.1) (w268 g.1) (by decide) duch_7 (lenOf pd5 rfl) rfl rfl rfl (by simp) (Nat.le_of_eq rfl) (by decide) (by decide) (by decide) (by decide) rfl ?_
  rintro v53 _ o53 ⟨rfl, rfl, rfl⟩ K53
  exact wkP.retI .char [] g.2.1 duch_10 rfl (by simp) (by show Value.int (nar .char c) = _; rw [nar_c hch]) (by decide) (by decide) (by simp) ⟨rfl, rfl, rfl⟩
abbrev rchAt : Room := { frames := 4, cells := 0, slots := 0, locals := 53 }
set_option maxRecDepth 65536 in
set_option maxHeartbeats 4000000 in
theorem M_chAt (l : Launch) (Z : State) (a0 : Array Value) (g : G Z a0) (h : Heap) (a b : Addr) (cs : List Int32) (F : St Z h a b cs) (i : Nat) (c : Int32) (hc : cs[i]? = some c) (hch : ¬ c < 0 ∧ ¬ 65535 < c) : wkM l Z bchAt rchAt #[.ref a, .int (Int32.ofNat i)] h [] (fun v h' os => v = some (.int c) ∧ os = [] ∧ h = h') := by
  refine wkM.of #[.val (.ref a), .val (.int (Int32.ofNat i))] (plainFor_of_name (by first | (simp [plainName, overriddenIn]; done) | decide +kernel)) (fun m => by first | rfl | (simp [entryFrame, mkF, argsToLocals, Value.category]; done)) ?_
  rcases F with F | F
  · refine wkP.aloadN 1 dchAt_0 rfl rfl rfl ?_
    refine wkP.callV 4 (M_isLatL l Z a0 g _ a b cs F) [] [] 0 g.2.1 F.1 (wkNFs (w214 g.1)) (w211 g.1) (w212 g.1) (w214 g.1) (w213 g.1) (w3 g.1) (w215 g.1) (by decide) dchAt_1 (lenOf pd13 rfl) rfl rfl rfl (by simp) (Nat.le_of_eq rfl) (by decide) (by decide) (by decide) (by decide) rfl ?_
    rintro v54 _ o54 ⟨rfl, rfl, rfl⟩ K54
    refine wkP.ifF 7 dchAt_4 (show ¬ ((1 : Int32) = (0 : Int32)) from (by decide)) rfl ?_
    refine wkP.aloadN 8 dchAt_7 rfl rfl rfl ?_
    refine wkP.getF 11 (w21 g.1) F.2.2.1 Via.refl dchAt_8 rfl ?_
    refine wkP.iloadN 12 dchAt_11 rfl rfl ?_
    refine wkP.callS 15 (M_lch l Z a0 g _ b cs i c F.2.2.2.1 hc (F.2.2.2.2 c (List.mem_of_getElem? hc))) [(.ref b), (.int (Int32.ofNat i))] [] 0 g.2.1 (w216 g.1) (w217 g.1) (w218 g.1) (w219 g.1) (by decide) dchAt_12 (lenOf pd5 rfl) rfl rfl rfl (by simp) (Nat.le_of_eq rfl) (by decide) (by decide) (by decide) (by decide) rfl ?_
    rintro v55 _ o55 ⟨rfl, rfl, rfl⟩ K55
    exact wkP.retI .char [] g.2.1 dchAt_15 rfl (by simp) (by show Value.int (nar .char c) = _; rw [nar_c hch]) (by decide) (by decide) (by simp) ⟨rfl, rfl, rfl⟩
  · refine wkP.aloadN 1 dchAt_0 rfl rfl rfl ?_
    refine wkP.callV 4 (M_isLatU l Z a0 g _ a b cs F) [] [] 0 g.2.1 F.1 (wkNFs (w214 g.1)) (w211 g.1) (w212 g.1) (w214 g.1) (w213 g.1) (w3 g.1) (w215 g.1) (by decide) dchAt_1 (lenOf pd13 rfl) rfl rfl rfl (by simp) (Nat.le_of_eq rfl) (by decide) (by decide) (by decide) (by decide) rfl ?_
    rintro v56 _ o56 ⟨rfl, rfl, rfl⟩ K56
    refine wkP.ifT 16 dchAt_4 (show (0 : Int32) = (0 : Int32) from (by decide)) (by decide) (by decide) ?_
    refine wkP.aloadN 17 dchAt_16 rfl rfl rfl ?_
    refine wkP.getF 20 (w21 g.1) F.2.2.1 Via.refl dchAt_17 rfl ?_
    refine wkP.iloadN 21 dchAt_20 rfl rfl ?_
    refine wkP.callS 24 (M_uch l Z a0 g _ b cs i c F.2.2.2.1 hc (F.2.2.2.2.1 c (List.mem_of_getElem? hc))) [(.ref b), (.int (Int32.ofNat i))] [] 0 g.2.1 (w299 g.1) (w300 g.1) (w245 g.1) (w301 g.1) (by decide) dchAt_21 (lenOf pd5 rfl) rfl rfl rfl (by simp) (Nat.le_of_eq rfl) (by decide) (by decide) (by decide) (by decide) rfl ?_
    rintro v57 _ o57 ⟨rfl, rfl, rfl⟩ K57
    exact wkP.retI .char [] g.2.1 dchAt_24 rfl (by simp) (by show Value.int (nar .char c) = _; rw [nar_c hch]) (by decide) (by decide) (by simp) ⟨rfl, rfl, rfl⟩
abbrev rasbI : Room := { frames := 1, cells := 1, slots := 16, locals := 12 }
set_option maxRecDepth 65536 in
set_option maxHeartbeats 4000000 in
theorem M_asbI (l : Launch) (Z : State) (a0 : Array Value) (g : G Z a0) (h : Heap) (a : Addr) (E : Exa Z h a "java/lang/StringBuilder") (vv vc : Value) (FV : Fld Z h a "java/lang/AbstractStringBuilder" "value" "[B" vv) (FC : Fld Z h a "java/lang/AbstractStringBuilder" "coder" "B" vc) (FN : Fld Z h a "java/lang/AbstractStringBuilder" "count" "I" (.int 0)) (FM : Fld Z h a "java/lang/AbstractStringBuilder" "maybeLatin1" "Z" (.int 0)) : wkM l Z basbI rasbI #[.ref a, .int 16] h [a] (fun v h' os => ∃ d, v = none ∧ h.size ≤ d ∧ os = [d] ∧ SbL Z h' a d []) := by
  refine wkM.of #[.val (.ref a), .val (.int (16 : Int32))] (plainFor_of_name (by first | (simp [plainName, overriddenIn]; done) | decide +kernel)) (fun m => by first | rfl | (simp [entryFrame, mkF, argsToLocals, Value.category]; done)) ?_
  have la := exaLt E
  obtain ⟨zc, hzc, hzn⟩ := g.2.2.1
  refine wkP.aloadN 1 dasbI_0 rfl rfl rfl ?_
  refine wkP.initO 4 (w42 g.1) (w13 g.1) (w14 g.1) dasbI_1 rfl (by decide) 0 (Nat.le_of_eq rfl) (by decide) rfl ?_
  refine wkP.getS 7 (w43 g.1) hzc Via.refl dasbI_4 rfl ?_
  refine wkP.ifF 10 dasbI_7 (show ¬ (zc = (0 : Int32)) from hzn) rfl ?_
  refine wkP.aloadN 11 dasbI_10 rfl rfl rfl ?_
  refine wkP.iloadN 12 dasbI_11 rfl rfl ?_
  refine wkP.newPE 14 .byte "[B" 16 16 (w16 g.1) rfl (by decide +kernel) rfl rfl dasbI_12 rfl (by omega) (by decide) (by decide) (by decide) rfl ?_
  intro h58 a58 g58 l58 K58 A58 X58
  have z58 := K58.1
  have FV_59 := (FV.keep K58 nn0)
  have E_60 := (E.keep K58)
  have FC_61 := (FC.keep K58 nn0)
  have FN_62 := (FN.keep K58 nn0)
  have FM_63 := (FM.keep K58 nn0)
  refine wkP.putF 17 (w44 g.1) FV_59 E_60 (Or.inl (w45 g.1)) (w31 g.1) (ty := (.array .byte)) (by decide) rfl rfl dasbI_14 (by simp) rfl ?_
  intro h64 K64 W64
  have z64 := K64.1
  have F64 := Fld.same W64 FV_59
  have E64 := Exa.wr W64 E_60
  have F65 := Fld.other W64 FC_61 (Or.inr (slot_ne (t := .byte) (t' := (.array .byte)) (Or.inl (w47 g.1)) (Or.inl (w45 g.1)) (by decide) (by decide) (by decide)))
  have F66 := Fld.other W64 FN_62 (Or.inr (slot_ne (t := .int) (t' := (.array .byte)) (Or.inl (w70 g.1)) (Or.inl (w45 g.1)) (by decide) (by decide) (by decide)))
  have F67 := Fld.other W64 FM_63 (Or.inr (slot_ne (t := .boolean) (t' := (.array .byte)) (Or.inl (w298 g.1)) (Or.inl (w45 g.1)) (by decide) (by decide) (by decide)))
  refine wkP.aloadN 18 dasbI_17 rfl rfl rfl ?_
  refine wkP.iconst 19 (0 : Int32) dasbI_18 rfl rfl ?_
  refine wkP.putF 22 (w46 g.1) F65 E64 (Or.inl (w47 g.1)) (w31 g.1) (ty := .byte) (by decide) rfl rfl dasbI_19 (by simp) rfl ?_
  intro h68 K68 W68
  have z68 := K68.1
  have F68 := Fld.same W68 F65
  have E68 := Exa.wr W68 E64
  have F69 := Fld.other W68 F64 (Or.inr (slot_ne (t := (.array .byte)) (t' := .byte) (Or.inl (w45 g.1)) (Or.inl (w47 g.1)) (by decide) (by decide) (by decide)))
  have F70 := Fld.other W68 F66 (Or.inr (slot_ne (t := .int) (t' := .byte) (Or.inl (w70 g.1)) (Or.inl (w47 g.1)) (by decide) (by decide) (by decide)))
  have F71 := Fld.other W68 F67 (Or.inr (slot_ne (t := .boolean) (t' := .byte) (Or.inl (w298 g.1)) (Or.inl (w47 g.1)) (by decide) (by decide) (by decide)))
  refine wkP.goto 38 dasbI_22 (by decide) (by decide) ?_
  have A58_72 := ((A58.keep K64 (nnS (by omega) nn0)).keep K68 (nnS (by omega) nn0))
  have X58_73 := ((X58.keep K64).keep K68)
  exact wkP.ret0 [a58] g.2.1 dasbI_38 rfl (by decide) (by decide) (by simp) ⟨a58, rfl, by omega, rfl, _, ⟨E68, F69, F68, F70, F71, A58_72⟩, rfl, by simp, rfl, (fun c hc => by simp at hc), X58_73⟩
abbrev rsbI : Room := { frames := 2, cells := 1, slots := 16, locals := 25 }
set_option maxRecDepth 65536 in
set_option maxHeartbeats 4000000 in
theorem M_sbI (l : Launch) (Z : State) (a0 : Array Value) (g : G Z a0) (h : Heap) (a : Addr) (E : Exa Z h a "java/lang/StringBuilder") (vv vc : Value) (FV : Fld Z h a "java/lang/AbstractStringBuilder" "value" "[B" vv) (FC : Fld Z h a "java/lang/AbstractStringBuilder" "coder" "B" vc) (FN : Fld Z h a "java/lang/AbstractStringBuilder" "count" "I" (.int 0)) (FM : Fld Z h a "java/lang/AbstractStringBuilder" "maybeLatin1" "Z" (.int 0)) : wkM l Z bsbI rsbI #[.ref a] h [a] (fun v h' os => ∃ d, v = none ∧ h.size ≤ d ∧ os = [d] ∧ SbL Z h' a d []) := by
  refine wkM.of #[.val (.ref a)] (plainFor_of_name (by first | (simp [plainName, overriddenIn]; done) | decide +kernel)) (fun m => by first | rfl | (simp [entryFrame, mkF, argsToLocals, Value.category]; done)) ?_
  refine wkP.aloadN 1 dsbI_0 rfl rfl rfl ?_
  refine wkP.bipush 3 (16 : Int32) dsbI_1 rfl rfl ?_
  refine wkP.callI 6 (M_asbI l Z a0 g _ a E vv vc FV FC FN FM) [(.int (16 : Int32))] [] 0 g.2.1 (w36 g.1) (w37 g.1) (w40 g.1) (w41 g.1) rfl rfl (by decide) dsbI_3 (lenOf pd14 rfl) rfl rfl rfl (by simp) (Nat.le_of_eq rfl) (by decide) (by decide) (by decide) (by decide) rfl ?_
  rintro v74 h74 o74 ⟨d, rfl, gd, rfl, H⟩ K74
  have z74 := K74.1
  exact wkP.ret0 [d] g.2.1 dsbI_6 rfl (by decide) (by decide) (by simp) ⟨d, rfl, gd, rfl, H⟩
abbrev rsbL : Room := { frames := 0, cells := 0, slots := 0, locals := 0 }
set_option maxRecDepth 65536 in
set_option maxHeartbeats 4000000 in
theorem M_sbL0 (l : Launch) (Z : State) (a0 : Array Value) (g : G Z a0) (h : Heap) (a x : Addr) (m : Nat) (ys : List Int32) (F : Sb Z h a x 0 m ys) : wkM l Z bsbL rsbL #[.ref a] h [] (fun v h' os => v = some (.int 1) ∧ os = [] ∧ h = h') := by
  refine wkM.of #[.val (.ref a)] (plainFor_of_name (by first | (simp [plainName, overriddenIn]; done) | decide +kernel)) (fun m => by first | rfl | (simp [entryFrame, mkF, argsToLocals, Value.category]; done)) ?_
  obtain ⟨zc, hzc, hzn⟩ := g.2.2.1
  refine wkP.getS 3 (w43 g.1) hzc Via.refl dsbL_0 rfl ?_
  refine wkP.ifF 6 dsbL_3 (show ¬ (zc = (0 : Int32)) from hzn) rfl ?_
  refine wkP.aloadN 7 dsbL_6 rfl rfl rfl ?_
  refine wkP.getF 10 (w46 g.1) F.2.2.1 Via.refl dsbL_7 rfl ?_
  refine wkP.ifF 13 dsbL_10 (show ¬ (¬ (0 : Int32) = (0 : Int32)) from (by decide)) rfl ?_
  refine wkP.iconst 14 (1 : Int32) dsbL_13 rfl rfl ?_
  refine wkP.goto 18 dsbL_14 (by decide) (by decide) ?_
  exact wkP.retI .boolean [] g.2.1 dsbL_18 rfl (by simp) rfl (by decide) (by decide) (by simp) ⟨rfl, rfl, rfl⟩
set_option maxRecDepth 65536 in
set_option maxHeartbeats 4000000 in
theorem M_sbL1 (l : Launch) (Z : State) (a0 : Array Value) (g : G Z a0) (h : Heap) (a x : Addr) (m : Nat) (ys : List Int32) (F : Sb Z h a x 1 m ys) : wkM l Z bsbL rsbL #[.ref a] h [] (fun v h' os => v = some (.int 0) ∧ os = [] ∧ h = h') := by
  refine wkM.of #[.val (.ref a)] (plainFor_of_name (by first | (simp [plainName, overriddenIn]; done) | decide +kernel)) (fun m => by first | rfl | (simp [entryFrame, mkF, argsToLocals, Value.category]; done)) ?_
  obtain ⟨zc, hzc, hzn⟩ := g.2.2.1
  refine wkP.getS 3 (w43 g.1) hzc Via.refl dsbL_0 rfl ?_
  refine wkP.ifF 6 dsbL_3 (show ¬ (zc = (0 : Int32)) from hzn) rfl ?_
  refine wkP.aloadN 7 dsbL_6 rfl rfl rfl ?_
  refine wkP.getF 10 (w46 g.1) F.2.2.1 Via.refl dsbL_7 rfl ?_
  refine wkP.ifT 17 dsbL_10 (show ¬ (1 : Int32) = (0 : Int32) from (by decide)) (by decide) (by decide) ?_
  refine wkP.iconst 18 (0 : Int32) dsbL_17 rfl rfl ?_
  exact wkP.retI .boolean [] g.2.1 dsbL_18 rfl (by simp) rfl (by decide) (by decide) (by simp) ⟨rfl, rfl, rfl⟩
abbrev rens : Room := { frames := 0, cells := 0, slots := 0, locals := 0 }
set_option maxRecDepth 65536 in
set_option maxHeartbeats 4000000 in
theorem M_ens0 (l : Launch) (Z : State) (a0 : Array Value) (g : G Z a0) (h : Heap) (a x : Addr) (m q : Nat) (ys : List Int32) (F : Sb Z h a x 0 m ys) (hy : ys.length = 16) (hq : q ≤ 16) : wkM l Z bens rens #[.ref a, .int (Int32.ofNat q)] h [] (fun v h' os => v = none ∧ os = [] ∧ h = h') := by
  refine wkM.of #[.val (.ref a), .val (.int (Int32.ofNat q)), .unset] (plainFor_of_name (by first | (simp [plainName, overriddenIn]; done) | decide +kernel)) (fun m => by first | rfl | (simp [entryFrame, mkF, argsToLocals, Value.category]; done)) ?_
  refine wkP.aloadN 1 dens_0 rfl rfl rfl ?_
  refine wkP.getF 4 (w44 g.1) F.2.1 Via.refl dens_1 rfl ?_
  refine wkP.alen 5 (Int32.ofNat 16) F.2.2.2.2.2 dens_4 (by rw [hy]) rfl ?_
  refine wkP.aloadN 6 dens_5 rfl rfl rfl ?_
  refine wkP.getF 9 (w46 g.1) F.2.2.1 Via.refl dens_6 rfl ?_
  refine wkP.ishr 10 (Int32.ofNat 16) dens_9 (by decide) rfl ?_
  refine wkP.istoreN 11 #[.val (.ref a), .val (.int (Int32.ofNat q)), .val (.int (Int32.ofNat 16))] dens_10 rfl rfl ?_
  refine wkP.iloadN 12 dens_11 rfl rfl ?_
  refine wkP.iloadN 13 dens_12 rfl rfl ?_
  refine wkP.isub 14 ((Int32.ofNat q) - (Int32.ofNat 16)) dens_13 rfl rfl ?_
  refine wkP.ifT 38 dens_14 (show ¬ (0 : Int32) < ((Int32.ofNat q) - (Int32.ofNat 16)) from (le_sub hq (by decide))) (by decide) (by decide) ?_
  exact wkP.ret0 [] g.2.1 dens_38 rfl (by decide) (by decide) (by simp) ⟨rfl, rfl, rfl⟩
set_option maxRecDepth 65536 in
set_option maxHeartbeats 4000000 in
theorem M_ens1 (l : Launch) (Z : State) (a0 : Array Value) (g : G Z a0) (h : Heap) (a x : Addr) (m q : Nat) (ys : List Int32) (F : Sb Z h a x 1 m ys) (hy : ys.length = 32) (hq : q ≤ 16) : wkM l Z bens rens #[.ref a, .int (Int32.ofNat q)] h [] (fun v h' os => v = none ∧ os = [] ∧ h = h') := by
  refine wkM.of #[.val (.ref a), .val (.int (Int32.ofNat q)), .unset] (plainFor_of_name (by first | (simp [plainName, overriddenIn]; done) | decide +kernel)) (fun m => by first | rfl | (simp [entryFrame, mkF, argsToLocals, Value.category]; done)) ?_
  refine wkP.aloadN 1 dens_0 rfl rfl rfl ?_
  refine wkP.getF 4 (w44 g.1) F.2.1 Via.refl dens_1 rfl ?_
  refine wkP.alen 5 (Int32.ofNat 32) F.2.2.2.2.2 dens_4 (by rw [hy]) rfl ?_
  refine wkP.aloadN 6 dens_5 rfl rfl rfl ?_
  refine wkP.getF 9 (w46 g.1) F.2.2.1 Via.refl dens_6 rfl ?_
  refine wkP.ishr 10 (Int32.ofNat 16) dens_9 (by decide) rfl ?_
  refine wkP.istoreN 11 #[.val (.ref a), .val (.int (Int32.ofNat q)), .val (.int (Int32.ofNat 16))] dens_10 rfl rfl ?_
  refine wkP.iloadN 12 dens_11 rfl rfl ?_
  refine wkP.iloadN 13 dens_12 rfl rfl ?_
  refine wkP.isub 14 ((Int32.ofNat q) - (Int32.ofNat 16)) dens_13 rfl rfl ?_
  refine wkP.ifT 38 dens_14 (show ¬ (0 : Int32) < ((Int32.ofNat q) - (Int32.ofNat 16)) from (le_sub hq (by decide))) (by decide) (by decide) ?_
  exact wkP.ret0 [] g.2.1 dens_38 rfl (by decide) (by decide) (by simp) ⟨rfl, rfl, rfl⟩
abbrev rcfi : Room := { frames := 0, cells := 0, slots := 0, locals := 0 }
theorem or2 {x y : Int32} (hx : ¬ x < 0) (hy : ¬ y < 0) : ¬ (x ||| y) < 0 := by
  rw [Int32.lt_iff_toInt_lt] at *
  have hx' : x.toBitVec.msb = false := by
    rw [BitVec.msb_eq_toInt]; simpa using hx
  have hy' : y.toBitVec.msb = false := by
    rw [BitVec.msb_eq_toInt]; simpa using hy
  have : (x ||| y).toBitVec.msb = false := by
    rw [Int32.toBitVec_or, BitVec.msb_or, hx', hy']; rfl
  rw [BitVec.msb_eq_toInt] at this
  have r : ¬ (x ||| y).toBitVec.toInt < 0 := of_decide_eq_false this
  exact r
theorem or3 {i q n : Nat} (hi : i < 2 ^ 31) (hq : q < 2 ^ 31) (hn : n < 2 ^ 31) : ¬ ((Int32.ofNat n ||| Int32.ofNat i) ||| Int32.ofNat q) < 0 := or2 (or2 (nn_of hn) (nn_of hi)) (nn_of hq)
theorem le_sub3 {i q n : Nat} (hi : i + q ≤ n) (hn : n < 2 ^ 31) : ¬ (Int32.ofNat n - Int32.ofNat i) < Int32.ofNat q := by
  have h := c_isub (Int32.ofNat n) (Int32.ofNat i)
  have h2 := rng32 (Int32.ofNat n - Int32.ofNat i)
  rw [toI hn, toI (show i < 2 ^ 31 by omega)] at h
  rw [Int32.lt_iff_toInt_lt, toI (show q < 2 ^ 31 by omega)]; omega
set_option maxRecDepth 65536 in
set_option maxHeartbeats 4000000 in
theorem M_cfi (l : Launch) (Z : State) (a0 : Array Value) (g : G Z a0) (h : Heap) (i q n : Nat) (fm : Value) (hr : fm.isRef = true) (hi : i + q ≤ n) (hn : n < 2 ^ 31) : wkM l Z bcfi rcfi #[.int (Int32.ofNat i), .int (Int32.ofNat q), .int (Int32.ofNat n), fm] h [] (fun v h' os => v = some (.int (Int32.ofNat i)) ∧ os = [] ∧ h = h') := by
  obtain rfl | ⟨fa, rfl⟩ := ref_cases hr
  · refine wkM.of #[.val (.int (Int32.ofNat i)), .val (.int (Int32.ofNat q)), .val (.int (Int32.ofNat n)), .val .null] (plainFor_of_name (by first | (simp [plainName, overriddenIn]; done) | decide +kernel)) (fun m => by first | rfl | (simp [entryFrame, mkF, argsToLocals, Value.category]; done)) ?_
    refine wkP.iloadN 1 dcfi_0 rfl rfl ?_
    refine wkP.iloadN 2 dcfi_1 rfl rfl ?_
    refine wkP.ior 3 ((Int32.ofNat n) ||| (Int32.ofNat i)) dcfi_2 rfl rfl ?_
    refine wkP.iloadN 4 dcfi_3 rfl rfl ?_
    refine wkP.ior 5 (((Int32.ofNat n) ||| (Int32.ofNat i)) ||| (Int32.ofNat q)) dcfi_4 rfl rfl ?_
    refine wkP.ifF 8 dcfi_5 (show ¬ ((((Int32.ofNat n) ||| (Int32.ofNat i)) ||| (Int32.ofNat q)) < (0 : Int32)) from (or3 (by omega) (by omega) hn)) rfl ?_
    refine wkP.iloadN 9 dcfi_8 rfl rfl ?_
    refine wkP.iloadN 10 dcfi_9 rfl rfl ?_
    refine wkP.iloadN 11 dcfi_10 rfl rfl ?_
    refine wkP.isub 12 ((Int32.ofNat n) - (Int32.ofNat i)) dcfi_11 rfl rfl ?_
    refine wkP.icmpT 23 dcfi_12 (show ¬ ((Int32.ofNat n) - (Int32.ofNat i)) < (Int32.ofNat q) from (le_sub3 hi hn)) (by decide) (by decide) ?_
    refine wkP.iloadN 24 dcfi_23 rfl rfl ?_
    exact wkP.retI .int [] g.2.1 dcfi_24 rfl (by simp) rfl (by decide) (by decide) (by simp) ⟨rfl, rfl, rfl⟩
  · refine wkM.of #[.val (.int (Int32.ofNat i)), .val (.int (Int32.ofNat q)), .val (.int (Int32.ofNat n)), .val (.ref fa)] (plainFor_of_name (by first | (simp [plainName, overriddenIn]; done) | decide +kernel)) (fun m => by first | rfl | (simp [entryFrame, mkF, argsToLocals, Value.category]; done)) ?_
    refine wkP.iloadN 1 dcfi_0 rfl rfl ?_
    refine wkP.iloadN 2 dcfi_1 rfl rfl ?_
    refine wkP.ior 3 ((Int32.ofNat n) ||| (Int32.ofNat i)) dcfi_2 rfl rfl ?_
    refine wkP.iloadN 4 dcfi_3 rfl rfl ?_
    refine wkP.ior 5 (((Int32.ofNat n) ||| (Int32.ofNat i)) ||| (Int32.ofNat q)) dcfi_4 rfl rfl ?_
    refine wkP.ifF 8 dcfi_5 (show ¬ ((((Int32.ofNat n) ||| (Int32.ofNat i)) ||| (Int32.ofNat q)) < (0 : Int32)) from (or3 (by omega) (by omega) hn)) rfl ?_
    refine wkP.iloadN 9 dcfi_8 rfl rfl ?_
    refine wkP.iloadN 10 dcfi_9 rfl rfl ?_
    refine wkP.iloadN 11 dcfi_10 rfl rfl ?_
    refine wkP.isub 12 ((Int32.ofNat n) - (Int32.ofNat i)) dcfi_11 rfl rfl ?_
    refine wkP.icmpT 23 dcfi_12 (show ¬ ((Int32.ofNat n) - (Int32.ofNat i)) < (Int32.ofNat q) from (le_sub3 hi hn)) (by decide) (by decide) ?_
    refine wkP.iloadN 24 dcfi_23 rfl rfl ?_
    exact wkP.retI .int [] g.2.1 dcfi_24 rfl (by simp) rfl (by decide) (by decide) (by simp) ⟨rfl, rfl, rfl⟩
abbrev rsbo : Room := { frames := 1, cells := 0, slots := 0, locals := 15 }
set_option maxRecDepth 65536 in
set_option maxHeartbeats 4000000 in
theorem M_sbo (l : Launch) (Z : State) (a0 : Array Value) (g : G Z a0) (h : Heap) (i q n : Nat) (hi : i + q ≤ n) (hn : n < 2 ^ 31) : wkM l Z bsbo rsbo #[.int (Int32.ofNat i), .int (Int32.ofNat q), .int (Int32.ofNat n)] h [] (fun v h' os => v = some (.int (Int32.ofNat i)) ∧ os = [] ∧ h = h') := by
  refine wkM.of #[.val (.int (Int32.ofNat i)), .val (.int (Int32.ofNat q)), .val (.int (Int32.ofNat n))] (plainFor_of_name (by first | (simp [plainName, overriddenIn]; done) | decide +kernel)) (fun m => by first | rfl | (simp [entryFrame, mkF, argsToLocals, Value.category]; done)) ?_
  obtain ⟨fm, hfm, hr⟩ := g.2.2.2.1
  refine wkP.iloadN 1 dsbo_0 rfl rfl ?_
  refine wkP.iloadN 2 dsbo_1 rfl rfl ?_
  refine wkP.iloadN 3 dsbo_2 rfl rfl ?_
  refine wkP.getS 6 (w223 g.1) hfm Via.refl dsbo_3 rfl ?_
  refine wkP.callS 9 (M_cfi l Z a0 g _ i q n fm hr hi hn) [(.int (Int32.ofNat i)), (.int (Int32.ofNat q)), (.int (Int32.ofNat n)), fm] [] 0 g.2.1 (w293 g.1) (w294 g.1) (w224 g.1) (w295 g.1) (by decide) dsbo_6 (lenOf pd15 rfl) rfl rfl rfl (by simp) (Nat.le_of_eq rfl) (by decide) (by decide) (by decide) (by decide) rfl ?_
  rintro v75 _ o75 ⟨rfl, rfl, rfl⟩ K75
  exact wkP.retI .int [] g.2.1 dsbo_9 rfl (by simp) rfl (by decide) (by decide) (by simp) ⟨rfl, rfl, rfl⟩
abbrev rubo : Room := { frames := 2, cells := 0, slots := 0, locals := 29 }
set_option maxRecDepth 65536 in
set_option maxHeartbeats 4000000 in
theorem M_ubo (l : Launch) (Z : State) (a0 : Array Value) (g : G Z a0) (h : Heap) (d : Addr) (ys : List Int32) (i q n : Nat) (F : Ia Z h d .byte ys) (hn : ys.length = 2 * n) (hi : i + q ≤ n) : wkM l Z bubo rubo #[.int (Int32.ofNat i), .int (Int32.ofNat q), .ref d] h [] (fun v h' os => v = none ∧ os = [] ∧ h = h') := by
  refine wkM.of #[.val (.int (Int32.ofNat i)), .val (.int (Int32.ofNat q)), .val (.ref d)] (plainFor_of_name (by first | (simp [plainName, overriddenIn]; done) | decide +kernel)) (fun m => by first | rfl | (simp [entryFrame, mkF, argsToLocals, Value.category]; done)) ?_
  have hL := F.len
  refine wkP.iloadN 1 dubo_0 rfl rfl ?_
  refine wkP.iloadN 2 dubo_1 rfl rfl ?_
  refine wkP.aloadN 3 dubo_2 rfl rfl rfl ?_
  refine wkP.callS 6 (M_ulen l Z a0 g _ d ys n F hn) [(.ref d)] [(.int (Int32.ofNat q)), (.int (Int32.ofNat i))] 2 g.2.1 (w287 g.1) (w288 g.1) (w245 g.1) (w289 g.1) (by decide) dubo_3 (lenOf pd10 rfl) rfl rfl rfl (by simp) (Nat.le_of_eq rfl) (by decide) (by decide) (by decide) (by decide) rfl ?_
  rintro v76 _ o76 ⟨rfl, rfl, rfl⟩ K76
  refine wkP.callS 9 (M_sbo l Z a0 g _ i q n hi (by omega)) [(.int (Int32.ofNat i)), (.int (Int32.ofNat q)), (.int (Int32.ofNat n))] [] 0 g.2.1 (w290 g.1) (w291 g.1) (w3 g.1) (w292 g.1) (by decide) dubo_6 (lenOf pd16 rfl) rfl rfl rfl (by simp) (Nat.le_of_eq rfl) (by decide) (by decide) (by decide) (by decide) rfl ?_
  rintro v77 _ o77 ⟨rfl, rfl, rfl⟩ K77
  refine wkP.pop 10 dubo_9 rfl rfl ?_
  exact wkP.ret0 [] g.2.1 dubo_10 rfl (by decide) (by decide) (by simp) ⟨rfl, rfl, rfl⟩
abbrev ruinf : Room := { frames := 3, cells := 0, slots := 0, locals := 43 }
set_option maxRecDepth 65536 in
set_option maxHeartbeats 4000000 in
theorem L_uinf (l : Launch) (Z : State) (a0 : Array Value) (g : G Z a0) (hs : Heap) (b d : Addr) (xs ds ys : List Int32) (f m : Nat) (hbd : @Ne Nat b d) (hF : ∀ (i : Nat) (c : Int32), ds[i]? = some c → xs[i]? = some (lo8 c)) (hm : ys.length = 2 * m) (hf : f + ds.length ≤ m) (hlat : lat ds) : ∀ (r i : Nat) (h : Heap) (zs : List Int32), i + r = ds.length → Ia Z h b .byte xs → Ia Z h d .byte zs → zs.length = ys.length → zs.take (2 * (f + i)) = ys.take (2 * f) ++ u16 (ds.take i) →
    wkP l Z buinf ruinf hs [d] (fun v h' os => ∃ zs, v = none ∧ os = [] ∧ Ia Z h' d .byte zs ∧ zs.length = ys.length ∧ zs.take (2 * (f + ds.length)) = ys.take (2 * f) ++ u16 ds) [d] h 0 0 10 #[.val (.ref b), .val (.int (Int32.ofNat i)), .val (.ref d), .val (.int (Int32.ofNat (f + i))), .val (.int (Int32.ofNat ds.length)), .val (.int (Int32.ofNat i))] [] := by
  intro r
  induction r with
  | zero =>
    intro i h zs hir F D hz ht
    have hL := D.len
    refine wkP.iload 12 duinf_10 rfl rfl ?_
    refine wkP.iload 14 duinf_12 rfl rfl ?_
    refine wkP.icmpT 41 duinf_14 (show ¬ (Int32.ofNat i) < (Int32.ofNat ds.length) from (by rw [ofNat_lt (by omega) (by omega)]; omega)) (by decide) (by decide) ?_
    have e : ds.take i = ds := List.take_of_length_le (by omega)
    exact wkP.ret0 [] g.2.1 duinf_41 rfl (by decide) (by decide) (by simp) ⟨zs, rfl, rfl, D, hz, by rw [show ds.length = i by omega, ht, e]⟩
  | succ r ih =>
    intro i h zs hir F D hz ht
    have hL := D.len
    refine wkP.iload 12 duinf_10 rfl rfl ?_
    refine wkP.iload 14 duinf_12 rfl rfl ?_
    refine wkP.icmpF 17 duinf_14 (show ¬ (¬ (Int32.ofNat i) < (Int32.ofNat ds.length)) from (fun q => q ((ofNat_lt (by omega) (by omega)).mpr (by omega)))) rfl ?_
    obtain ⟨c, hc⟩ : ∃ c, ds[i]? = some c := ⟨_, List.getElem?_eq_getElem (show i < ds.length by omega)⟩
    refine wkP.aloadN 18 duinf_17 rfl rfl rfl ?_
    refine wkP.iloadN 19 duinf_18 rfl rfl ?_
    refine wkP.iinc 22 (Int32.ofNat (f + (i + 1))) #[.val (.ref b), .val (.int (Int32.ofNat i)), .val (.ref d), .val (.int (Int32.ofNat (f + (i + 1)))), .val (.int (Int32.ofNat ds.length)), .val (.int (Int32.ofNat i))] duinf_19 rfl (inc1 _) rfl rfl ?_
    refine wkP.aloadN 23 duinf_22 rfl rfl rfl ?_
    refine wkP.iloadN 24 duinf_23 rfl rfl ?_
    refine wkP.iinc 27 (Int32.ofNat (i + 1)) #[.val (.ref b), .val (.int (Int32.ofNat (i + 1))), .val (.ref d), .val (.int (Int32.ofNat (f + (i + 1)))), .val (.int (Int32.ofNat ds.length)), .val (.int (Int32.ofNat i))] duinf_24 rfl (inc1 _) rfl rfl ?_
    refine wkP.baload 28 i (lo8 c) F duinf_27 (toI (by omega)) (hF i c hc) rfl ?_
    refine wkP.sipush 31 (255 : Int32) duinf_28 rfl rfl ?_
    refine wkP.iand 32 c duinf_31 (lat_and (hlat c (List.mem_of_getElem? hc))) rfl ?_
    refine wkP.callS 35 (M_putC l Z a0 g _ d zs (f + i) c D (by omega)) [(.ref d), (.int (Int32.ofNat (f + i))), (.int c)] [] 0 g.2.1 (w260 g.1) (w261 g.1) (w245 g.1) (w262 g.1) (by decide) duinf_32 (lenOf pd2 rfl) rfl rfl rfl (by simp) (Nat.le_of_eq rfl) (by decide) (by decide) (by decide) (by decide) rfl ?_
    rintro v79 h79 o79 ⟨rfl, rfl, A79⟩ K79
    have z79 := K79.1
    refine wkP.iinc 38 (Int32.ofNat (i + 1)) #[.val (.ref b), .val (.int (Int32.ofNat (i + 1))), .val (.ref d), .val (.int (Int32.ofNat (f + (i + 1)))), .val (.int (Int32.ofNat ds.length)), .val (.int (Int32.ofNat (i + 1)))] duinf_35 rfl (inc1 _) rfl rfl ?_
    refine wkP.goto 10 duinf_38 (by decide) (by decide) ?_
    refine ih (i + 1) _ _ (by omega) (F.keep K79 (nn1 hbd)) A79 (by simpa using hz) ?_
    rw [show f + (i + 1) = f + i + 1 by omega, set2_take zs (f + i) _ _ (by omega), ht, take_succ' hc, u16_app, List.append_assoc]; rfl
set_option maxRecDepth 65536 in
set_option maxHeartbeats 4000000 in
theorem M_uinf (l : Launch) (Z : State) (a0 : Array Value) (g : G Z a0) (h : Heap) (b d : Addr) (xs ds ys : List Int32) (f m : Nat) (hbd : @Ne Nat b d) (hF : ∀ (i : Nat) (c : Int32), ds[i]? = some c → xs[i]? = some (lo8 c)) (hm : ys.length = 2 * m) (hf : f + ds.length ≤ m) (hlat : lat ds) (F : Ia Z h b .byte xs) (D : Ia Z h d .byte ys) : wkM l Z buinf ruinf #[.ref b, .int (Int32.ofNat 0), .ref d, .int (Int32.ofNat f), .int (Int32.ofNat ds.length)] h [d] (fun v h' os => ∃ zs, v = none ∧ os = [] ∧ Ia Z h' d .byte zs ∧ zs.length = ys.length ∧ zs.take (2 * (f + ds.length)) = ys.take (2 * f) ++ u16 ds) := by
  refine wkM.of #[.val (.ref b), .val (.int (Int32.ofNat 0)), .val (.ref d), .val (.int (Int32.ofNat f)), .val (.int (Int32.ofNat ds.length)), .unset] (plainFor_of_name (by first | (simp [plainName, overriddenIn]; done) | decide +kernel)) (fun m => by first | rfl | (simp [entryFrame, mkF, argsToLocals, Value.category]; done)) ?_
  have hL := D.len
  refine wkP.iloadN 1 duinf_0 rfl rfl ?_
  refine wkP.iload 3 duinf_1 rfl rfl ?_
  refine wkP.aloadN 4 duinf_3 rfl rfl rfl ?_
  refine wkP.callS 7 (M_ubo l Z a0 g _ d ys f ds.length m D hm hf) [(.int (Int32.ofNat f)), (.int (Int32.ofNat ds.length)), (.ref d)] [] 0 g.2.1 (w284 g.1) (w285 g.1) (w245 g.1) (w286 g.1) (by decide) duinf_4 (lenOf pd17 rfl) rfl rfl rfl (by simp) (Nat.le_of_eq rfl) (by decide) (by decide) (by decide) (by decide) rfl ?_
  rintro v78 _ o78 ⟨rfl, rfl, rfl⟩ K78
  refine wkP.iconst 8 (0 : Int32) duinf_7 rfl rfl ?_
  refine wkP.istore 10 #[.val (.ref b), .val (.int (Int32.ofNat 0)), .val (.ref d), .val (.int (Int32.ofNat f)), .val (.int (Int32.ofNat ds.length)), .val (.int (0 : Int32))] duinf_8 rfl rfl ?_
  exact L_uinf l Z a0 g _ b d xs ds ys f m hbd hF hm hf hlat ds.length 0 h ys (by omega) F D rfl (by simp [u16])
abbrev rlinf : Room := { frames := 4, cells := 0, slots := 0, locals := 60 }
set_option maxRecDepth 65536 in
set_option maxHeartbeats 4000000 in
theorem M_linf (l : Launch) (Z : State) (a0 : Array Value) (g : G Z a0) (h : Heap) (b d : Addr) (xs ds ys : List Int32) (f m : Nat) (hbd : @Ne Nat b d) (hF : ∀ (i : Nat) (c : Int32), ds[i]? = some c → xs[i]? = some (lo8 c)) (hm : ys.length = 2 * m) (hf : f + ds.length ≤ m) (hlat : lat ds) (F : Ia Z h b .byte xs) (D : Ia Z h d .byte ys) : wkM l Z blinf rlinf #[.ref b, .int (Int32.ofNat 0), .ref d, .int (Int32.ofNat f), .int (Int32.ofNat ds.length)] h [d] (fun v h' os => ∃ zs, v = none ∧ os = [] ∧ Ia Z h' d .byte zs ∧ zs.length = ys.length ∧ zs.take (2 * (f + ds.length)) = ys.take (2 * f) ++ u16 ds) := by
  refine wkM.of #[.val (.ref b), .val (.int (Int32.ofNat 0)), .val (.ref d), .val (.int (Int32.ofNat f)), .val (.int (Int32.ofNat ds.length))] (plainFor_of_name (by first | (simp [plainName, overriddenIn]; done) | decide +kernel)) (fun m => by first | rfl | (simp [entryFrame, mkF, argsToLocals, Value.category]; done)) ?_
  refine wkP.aloadN 1 dlinf_0 rfl rfl rfl ?_
  refine wkP.iloadN 2 dlinf_1 rfl rfl ?_
  refine wkP.aloadN 3 dlinf_2 rfl rfl rfl ?_
  refine wkP.iloadN 4 dlinf_3 rfl rfl ?_
  refine wkP.iload 6 dlinf_4 rfl rfl ?_
  refine wkP.callS 9 (M_uinf l Z a0 g _ b d xs ds ys f m hbd hF hm hf hlat F D) [(.ref b), (.int (Int32.ofNat 0)), (.ref d), (.int (Int32.ofNat f)), (.int (Int32.ofNat ds.length))] [] 0 g.2.1 (w281 g.1) (w282 g.1) (w245 g.1) (w283 g.1) (by decide) dlinf_6 (lenOf pd18 rfl) rfl rfl rfl (by simp) (Nat.le_of_eq rfl) (by decide) (by decide) (by decide) (by decide) rfl ?_
  rintro v80 h80 o80 ⟨zs, rfl, rfl, A, hz, ht⟩ K80
  have z80 := K80.1
  exact wkP.ret0 [] g.2.1 dlinf_9 rfl (by decide) (by decide) (by simp) ⟨zs, rfl, rfl, A, hz, ht⟩
abbrev rgb : Room := { frames := 5, cells := 0, slots := 0, locals := 76 }
set_option maxRecDepth 65536 in
set_option maxHeartbeats 4000000 in
theorem M_gbLL (l : Launch) (Z : State) (a0 : Array Value) (g : G Z a0) (h : Heap) (s t d : Addr) (cs ys : List Int32) (f : Nat) (F : SL Z h s t cs) (D : Ia Z h d .byte ys) (hf : f + cs.length ≤ ys.length) : wkM l Z bgb rgb #[.ref s, .ref d, .int (Int32.ofNat f), .int 0] h [d] (fun v h' os => ∃ zs, v = none ∧ os = [] ∧ Ia Z h' d .byte zs ∧ zs.length = ys.length ∧ zs.take (f + cs.length) = ys.take f ++ (cs.map lo8)) := by
  refine wkM.of #[.val (.ref s), .val (.ref d), .val (.int (Int32.ofNat f)), .val (.int (0 : Int32))] (plainFor_of_name (by first | (simp [plainName, overriddenIn]; done) | decide +kernel)) (fun m => by first | rfl | (simp [entryFrame, mkF, argsToLocals, Value.category]; done)) ?_
  have hL := D.len
  have hM := F.2.2.2.1.len
  refine wkP.aloadN 1 dgb_0 rfl rfl rfl ?_
  refine wkP.callV 4 (M_coderL l Z a0 g _ s t cs F) [] [] 0 g.2.1 F.1 (wkNFs (w66 g.1)) (w63 g.1) (w64 g.1) (w66 g.1) (w65 g.1) (w3 g.1) (w67 g.1) (by decide) dgb_1 (lenOf pd8 rfl) rfl rfl rfl (by simp) (Nat.le_of_eq rfl) (by decide) (by decide) (by decide) (by decide) rfl ?_
  rintro v81 _ o81 ⟨rfl, rfl, rfl⟩ K81
  refine wkP.iloadN 5 dgb_4 rfl rfl ?_
  refine wkP.icmpF 8 dgb_5 (show ¬ (¬ (0 : Int32) = (0 : Int32)) from (by decide)) rfl ?_
  refine wkP.aloadN 9 dgb_8 rfl rfl rfl ?_
  refine wkP.getF 12 (w21 g.1) F.2.2.1 Via.refl dgb_9 rfl ?_
  refine wkP.iconst 13 (0 : Int32) dgb_12 rfl rfl ?_
  refine wkP.aloadN 14 dgb_13 rfl rfl rfl ?_
  refine wkP.iloadN 15 dgb_14 rfl rfl ?_
  refine wkP.iloadN 16 dgb_15 rfl rfl ?_
  refine wkP.ishl 17 (Int32.ofNat f) dgb_16 (shl0n f) rfl ?_
  refine wkP.aloadN 18 dgb_17 rfl rfl rfl ?_
  refine wkP.getF 21 (w21 g.1) F.2.2.1 Via.refl dgb_18 rfl ?_
  refine wkP.alen 22 (Int32.ofNat cs.length) F.2.2.2.1 dgb_21 (by simp) rfl ?_
  simp only [List.length_map] at hM
  refine wkP.copy 25 0 f cs.length 0 F.2.2.2.1 D (w92 g.1) (w95 g.1) (w93 g.1) (w94 g.1) dgb_22 rfl (toI (by omega)) (toI (by omega)) (by simp) hf (by simp) rfl (by decide) (Nat.le_of_eq rfl) (by decide) rfl ?_
  intro h82 K82 A82
  have z82 := K82.1
  refine wkP.goto 43 dgb_25 (by decide) (by decide) ?_
  exact wkP.ret0 [] g.2.1 dgb_43 rfl (by decide) (by decide) (by simp) ⟨_, rfl, rfl, A82, cp_len ys (cs.map lo8) f cs.length hf (by simp), cp_take ys (cs.map lo8) _ f cs.length (by omega) (by simp)⟩
set_option maxRecDepth 65536 in
set_option maxHeartbeats 4000000 in
theorem M_gbUU (l : Launch) (Z : State) (a0 : Array Value) (g : G Z a0) (h : Heap) (s t d : Addr) (cs ys : List Int32) (f : Nat) (F : SU Z h s t cs) (D : Ia Z h d .byte ys) (hf : (2 * f) + (2 * cs.length) ≤ ys.length) : wkM l Z bgb rgb #[.ref s, .ref d, .int (Int32.ofNat f), .int 1] h [d] (fun v h' os => ∃ zs, v = none ∧ os = [] ∧ Ia Z h' d .byte zs ∧ zs.length = ys.length ∧ zs.take ((2 * f) + (2 * cs.length)) = ys.take (2 * f) ++ (u16 cs)) := by
  refine wkM.of #[.val (.ref s), .val (.ref d), .val (.int (Int32.ofNat f)), .val (.int (1 : Int32))] (plainFor_of_name (by first | (simp [plainName, overriddenIn]; done) | decide +kernel)) (fun m => by first | rfl | (simp [entryFrame, mkF, argsToLocals, Value.category]; done)) ?_
  have hL := D.len
  have hM := F.2.2.2.1.len
  refine wkP.aloadN 1 dgb_0 rfl rfl rfl ?_
  refine wkP.callV 4 (M_coderU l Z a0 g _ s t cs F) [] [] 0 g.2.1 F.1 (wkNFs (w66 g.1)) (w63 g.1) (w64 g.1) (w66 g.1) (w65 g.1) (w3 g.1) (w67 g.1) (by decide) dgb_1 (lenOf pd8 rfl) rfl rfl rfl (by simp) (Nat.le_of_eq rfl) (by decide) (by decide) (by decide) (by decide) rfl ?_
  rintro v83 _ o83 ⟨rfl, rfl, rfl⟩ K83
  refine wkP.iloadN 5 dgb_4 rfl rfl ?_
  refine wkP.icmpF 8 dgb_5 (show ¬ (¬ (1 : Int32) = (1 : Int32)) from (by decide)) rfl ?_
  refine wkP.aloadN 9 dgb_8 rfl rfl rfl ?_
  refine wkP.getF 12 (w21 g.1) F.2.2.1 Via.refl dgb_9 rfl ?_
  rw [u16_len] at hM
  refine wkP.iconst 13 (0 : Int32) dgb_12 rfl rfl ?_
  refine wkP.aloadN 14 dgb_13 rfl rfl rfl ?_
  refine wkP.iloadN 15 dgb_14 rfl rfl ?_
  refine wkP.iloadN 16 dgb_15 rfl rfl ?_
  refine wkP.ishl 17 (Int32.ofNat (2 * f)) dgb_16 (shl1 (by omega)) rfl ?_
  refine wkP.aloadN 18 dgb_17 rfl rfl rfl ?_
  refine wkP.getF 21 (w21 g.1) F.2.2.1 Via.refl dgb_18 rfl ?_
  refine wkP.alen 22 (Int32.ofNat (2 * cs.length)) F.2.2.2.1 dgb_21 (by rw [u16_len]) rfl ?_
  refine wkP.copy 25 0 (2 * f) (2 * cs.length) 0 F.2.2.2.1 D (w92 g.1) (w95 g.1) (w93 g.1) (w94 g.1) dgb_22 rfl (toI (by omega)) (toI (by omega)) (by rw [u16_len]; omega) hf (by simp) rfl (by decide) (Nat.le_of_eq rfl) (by decide) rfl ?_
  intro h84 K84 A84
  have z84 := K84.1
  refine wkP.goto 43 dgb_25 (by decide) (by decide) ?_
  exact wkP.ret0 [] g.2.1 dgb_43 rfl (by decide) (by decide) (by simp) ⟨_, rfl, rfl, A84, cp_len ys (u16 cs) (2 * f) (2 * cs.length) hf (u16_len cs), cp_take ys (u16 cs) _ (2 * f) (2 * cs.length) (by omega) (u16_len cs)⟩
set_option maxRecDepth 65536 in
set_option maxHeartbeats 4000000 in
theorem M_gbLU (l : Launch) (Z : State) (a0 : Array Value) (g : G Z a0) (h : Heap) (s t d : Addr) (cs ys : List Int32) (f : Nat) (F : SL Z h s t cs) (D : Ia Z h d .byte ys) (htd : @Ne Nat t d) (m : Nat) (hm : ys.length = 2 * m) (hf : f + cs.length ≤ m) : wkM l Z bgb rgb #[.ref s, .ref d, .int (Int32.ofNat f), .int 1] h [d] (fun v h' os => ∃ zs, v = none ∧ os = [] ∧ Ia Z h' d .byte zs ∧ zs.length = ys.length ∧ zs.take (2 * (f + cs.length)) = ys.take (2 * f) ++ u16 cs) := by
  refine wkM.of #[.val (.ref s), .val (.ref d), .val (.int (Int32.ofNat f)), .val (.int (1 : Int32))] (plainFor_of_name (by first | (simp [plainName, overriddenIn]; done) | decide +kernel)) (fun m => by first | rfl | (simp [entryFrame, mkF, argsToLocals, Value.category]; done)) ?_
  have hL := D.len
  have hM := F.2.2.2.1.len
  refine wkP.aloadN 1 dgb_0 rfl rfl rfl ?_
  refine wkP.callV 4 (M_coderL l Z a0 g _ s t cs F) [] [] 0 g.2.1 F.1 (wkNFs (w66 g.1)) (w63 g.1) (w64 g.1) (w66 g.1) (w65 g.1) (w3 g.1) (w67 g.1) (by decide) dgb_1 (lenOf pd8 rfl) rfl rfl rfl (by simp) (Nat.le_of_eq rfl) (by decide) (by decide) (by decide) (by decide) rfl ?_
  rintro v85 _ o85 ⟨rfl, rfl, rfl⟩ K85
  refine wkP.iloadN 5 dgb_4 rfl rfl ?_
  refine wkP.icmpT 28 dgb_5 (show ¬ (0 : Int32) = (1 : Int32) from (by decide)) (by decide) (by decide) ?_
  refine wkP.aloadN 29 dgb_28 rfl rfl rfl ?_
  refine wkP.getF 32 (w21 g.1) F.2.2.1 Via.refl dgb_29 rfl ?_
  refine wkP.iconst 33 (0 : Int32) dgb_32 rfl rfl ?_
  refine wkP.aloadN 34 dgb_33 rfl rfl rfl ?_
  refine wkP.iloadN 35 dgb_34 rfl rfl ?_
  refine wkP.aloadN 36 dgb_35 rfl rfl rfl ?_
  refine wkP.getF 39 (w21 g.1) F.2.2.1 Via.refl dgb_36 rfl ?_
  refine wkP.alen 40 (Int32.ofNat cs.length) F.2.2.2.1 dgb_39 (by simp) rfl ?_
  refine wkP.callS 43 (M_linf l Z a0 g _ t d (cs.map lo8) cs ys f m htd (mapF cs) hm hf F.2.2.2.2 F.2.2.2.1 D) [(.ref t), (.int (0 : Int32)), (.ref d), (.int (Int32.ofNat f)), (.int (Int32.ofNat cs.length))] [] 0 g.2.1 (w296 g.1) (w279 g.1) (w218 g.1) (w280 g.1) (by decide) dgb_40 (lenOf pd18 rfl) rfl rfl rfl (by simp) (Nat.le_of_eq rfl) (by decide) (by decide) (by decide) (by decide) rfl ?_
  rintro v86 h86 o86 ⟨zs, rfl, rfl, A, hz, ht⟩ K86
  have z86 := K86.1
  exact wkP.ret0 [] g.2.1 dgb_43 rfl (by decide) (by decide) (by simp) ⟨zs, rfl, rfl, A, hz, ht⟩
abbrev rinf : Room := { frames := 5, cells := 1, slots := 32, locals := 76 }
set_option maxRecDepth 65536 in
set_option maxHeartbeats 4000000 in
theorem M_inf0 (l : Launch) (Z : State) (a0 : Array Value) (g : G Z a0) (h : Heap) (a x : Addr) (ys : List Int32) (F : Sb Z h a x 0 0 ys) (hy : ys.length = 16) : wkM l Z binf rinf #[.ref a] h [a] (fun v h' os => ∃ d zs, v = none ∧ h.size ≤ d ∧ os = [d] ∧ Sb Z h' a d 1 0 zs ∧ zs.length = 32) := by
  refine wkM.of #[.val (.ref a), .unset] (plainFor_of_name (by first | (simp [plainName, overriddenIn]; done) | decide +kernel)) (fun m => by first | rfl | (simp [entryFrame, mkF, argsToLocals, Value.category]; done)) ?_
  have la := F.lta
  have lx := F.ltv
  refine wkP.aloadN 1 dinf_0 rfl rfl rfl ?_
  refine wkP.callV 4 (M_sbL0 l Z a0 g _ a x 0 ys F) [] [] 0 g.2.1 F.1 (wkNFs (w125 g.1)) (w233 g.1) (w123 g.1) (w125 g.1) (w124 g.1) (w40 g.1) (w126 g.1) (by decide) dinf_1 (lenOf pd13 rfl) rfl rfl rfl (by simp) (Nat.le_of_eq rfl) (by decide) (by decide) (by decide) (by decide) rfl ?_
  rintro v87 _ o87 ⟨rfl, rfl, rfl⟩ K87
  refine wkP.ifT 8 dinf_4 (show ¬ (1 : Int32) = (0 : Int32) from (by decide)) (by decide) (by decide) ?_
  refine wkP.aloadN 9 dinf_8 rfl rfl rfl ?_
  refine wkP.getF 12 (w44 g.1) F.2.1 Via.refl dinf_9 rfl ?_
  refine wkP.alen 13 (Int32.ofNat 16) F.2.2.2.2.2 dinf_12 (by rw [hy]) rfl ?_
  refine wkP.callS 16 (M_nbf l Z a0 g _ 16 (by omega)) [(.int (Int32.ofNat 16))] [] 0 g.2.1 (w277 g.1) (w254 g.1) (w245 g.1) (w255 g.1) (by decide) dinf_13 (lenOf pd1 rfl) rfl rfl rfl (by simp) (Nat.le_of_eq rfl) (by decide) (by decide) (by decide) (by decide) rfl ?_
  rintro v88 h88 o88 ⟨d, rfl, gd, rfl, A88⟩ K88
  have z88 := K88.1
  have ld := A88.lt
  refine wkP.astoreN 17 #[.val (.ref a), .val (.ref d)] dinf_16 rfl rfl rfl ?_
  refine wkP.aloadN 18 dinf_17 rfl rfl rfl ?_
  have Fq2q1_89 := (F.2.1.keep K88 nn0)
  refine wkP.getF 21 (w44 g.1) Fq2q1_89 Via.refl dinf_18 rfl ?_
  refine wkP.iconst 22 (0 : Int32) dinf_21 rfl rfl ?_
  refine wkP.aloadN 23 dinf_22 rfl rfl rfl ?_
  refine wkP.iconst 24 (0 : Int32) dinf_23 rfl rfl ?_
  refine wkP.aloadN 25 dinf_24 rfl rfl rfl ?_
  have Fq2q2q2q1_90 := (F.2.2.2.1.keep K88 nn0)
  refine wkP.getF 28 (w69 g.1) Fq2q2q2q1_90 Via.refl dinf_25 rfl ?_
  have Fq2q2q2q2q2_91 := (F.2.2.2.2.2.keep K88 nn0)
  refine wkP.callS 31 (M_linf l Z a0 g _ x d ys [] _ 0 16 (by omega) (fun i c q => by simp at q) (by simp) (by simp) (fun c hc => by simp at hc) Fq2q2q2q2q2_91 A88) [(.ref x), (.int (0 : Int32)), (.ref d), (.int (0 : Int32)), (.int (Int32.ofNat 0))] [] 0 g.2.1 (w278 g.1) (w279 g.1) (w218 g.1) (w280 g.1) (by decide) dinf_28 (lenOf pd18 rfl) rfl rfl rfl (by simp) (Nat.le_of_eq rfl) (by decide) (by decide) (by decide) (by decide) rfl ?_
  rintro v92 h92 o92 ⟨zs, rfl, rfl, A92, hz, ht⟩ K92
  have z92 := K92.1
  refine wkP.aloadN 32 dinf_31 rfl rfl rfl ?_
  refine wkP.aloadN 33 dinf_32 rfl rfl rfl ?_
  have Fq2q1_93 := (Fq2q1_89.keep K92 (nnS (by omega) nn0))
  have Fq1_94 := ((F.1.keep K88).keep K92)
  have Fq2q2q1_95 := ((F.2.2.1.keep K88 nn0).keep K92 (nnS (by omega) nn0))
  have Fq2q2q2q1_96 := (Fq2q2q2q1_90.keep K92 (nnS (by omega) nn0))
  have Fq2q2q2q2q1_97 := ((F.2.2.2.2.1.keep K88 nn0).keep K92 (nnS (by omega) nn0))
  refine wkP.putF 36 (w44 g.1) Fq2q1_93 Fq1_94 (Or.inl (w45 g.1)) (w31 g.1) (ty := (.array .byte)) (by decide) rfl rfl dinf_33 (by simp) rfl ?_
  intro h98 K98 W98
  have z98 := K98.1
  have F98 := Fld.same W98 Fq2q1_93
  have E98 := Exa.wr W98 Fq1_94
  have F99 := Fld.other W98 Fq2q2q1_95 (Or.inr (slot_ne (t := .byte) (t' := (.array .byte)) (Or.inl (w47 g.1)) (Or.inl (w45 g.1)) (by decide) (by decide) (by decide)))
  have F100 := Fld.other W98 Fq2q2q2q1_96 (Or.inr (slot_ne (t := .int) (t' := (.array .byte)) (Or.inl (w70 g.1)) (Or.inl (w45 g.1)) (by decide) (by decide) (by decide)))
  have F101 := Fld.other W98 Fq2q2q2q2q1_97 (Or.inr (slot_ne (t := .boolean) (t' := (.array .byte)) (Or.inl (w298 g.1)) (Or.inl (w45 g.1)) (by decide) (by decide) (by decide)))
  refine wkP.aloadN 37 dinf_36 rfl rfl rfl ?_
  refine wkP.iconst 38 (1 : Int32) dinf_37 rfl rfl ?_
  refine wkP.putF 41 (w46 g.1) F99 E98 (Or.inl (w47 g.1)) (w31 g.1) (ty := .byte) (by decide) rfl rfl dinf_38 (by simp) rfl ?_
  intro h102 K102 W102
  have z102 := K102.1
  have F102 := Fld.same W102 F99
  have E102 := Exa.wr W102 E98
  have F103 := Fld.other W102 F98 (Or.inr (slot_ne (t := (.array .byte)) (t' := .byte) (Or.inl (w45 g.1)) (Or.inl (w47 g.1)) (by decide) (by decide) (by decide)))
  have F104 := Fld.other W102 F100 (Or.inr (slot_ne (t := .int) (t' := .byte) (Or.inl (w70 g.1)) (Or.inl (w47 g.1)) (by decide) (by decide) (by decide)))
  have F105 := Fld.other W102 F101 (Or.inr (slot_ne (t := .boolean) (t' := .byte) (Or.inl (w298 g.1)) (Or.inl (w47 g.1)) (by decide) (by decide) (by decide)))
  have A92_106 := ((A92.keep K98 (nnS (by omega) nn0)).keep K102 (nnS (by omega) nn0))
  exact wkP.ret0 [d] g.2.1 dinf_41 rfl (by decide) (by decide) (by simp) ⟨d, zs, rfl, gd, rfl, ⟨E102, F103, F102, F104, F105, A92_106⟩, by simpa using hz⟩
set_option maxRecDepth 65536 in
set_option maxHeartbeats 4000000 in
theorem M_inf1 (l : Launch) (Z : State) (a0 : Array Value) (g : G Z a0) (h : Heap) (a x : Addr) (m : Nat) (ys : List Int32) (F : Sb Z h a x 1 m ys) : wkM l Z binf rinf #[.ref a] h [] (fun v h' os => v = none ∧ os = [] ∧ h = h') := by
  refine wkM.of #[.val (.ref a), .unset] (plainFor_of_name (by first | (simp [plainName, overriddenIn]; done) | decide +kernel)) (fun m => by first | rfl | (simp [entryFrame, mkF, argsToLocals, Value.category]; done)) ?_
  refine wkP.aloadN 1 dinf_0 rfl rfl rfl ?_
  refine wkP.callV 4 (M_sbL1 l Z a0 g _ a x m ys F) [] [] 0 g.2.1 F.1 (wkNFs (w125 g.1)) (w233 g.1) (w123 g.1) (w125 g.1) (w124 g.1) (w40 g.1) (w126 g.1) (by decide) dinf_1 (lenOf pd13 rfl) rfl rfl rfl (by simp) (Nat.le_of_eq rfl) (by decide) (by decide) (by decide) (by decide) rfl ?_
  rintro v107 _ o107 ⟨rfl, rfl, rfl⟩ K107
  refine wkP.ifF 7 dinf_4 (show ¬ (¬ (0 : Int32) = (0 : Int32)) from (by decide)) rfl ?_
  exact wkP.ret0 [] g.2.1 dinf_7 rfl (by decide) (by decide) (by simp) ⟨rfl, rfl, rfl⟩
abbrev riin : Room := { frames := 6, cells := 1, slots := 32, locals := 89 }
set_option maxRecDepth 65536 in
set_option maxHeartbeats 4000000 in
theorem M_iin0 (l : Launch) (Z : State) (a0 : Array Value) (g : G Z a0) (h : Heap) (a x s t : Addr) (ys cs : List Int32) (m : Nat) (F : Sb Z h a x 0 m ys) (G : SL Z h s t cs) : wkM l Z biin riin #[.ref a, .ref s] h [] (fun v h' os => v = none ∧ os = [] ∧ h = h') := by
  refine wkM.of #[.val (.ref a), .val (.ref s)] (plainFor_of_name (by first | (simp [plainName, overriddenIn]; done) | decide +kernel)) (fun m => by first | rfl | (simp [entryFrame, mkF, argsToLocals, Value.category]; done)) ?_
  obtain ⟨zc, hzc, hzn⟩ := g.2.2.1
  refine wkP.getS 3 (w43 g.1) hzc Via.refl diin_0 rfl ?_
  refine wkP.ifF 6 diin_3 (show ¬ (zc = (0 : Int32)) from hzn) rfl ?_
  refine wkP.aloadN 7 diin_6 rfl rfl rfl ?_
  refine wkP.getF 10 (w46 g.1) F.2.2.1 Via.refl diin_7 rfl ?_
  refine wkP.aloadN 11 diin_10 rfl rfl rfl ?_
  refine wkP.callV 14 (M_coderL l Z a0 g _ s t cs G) [] [(.int (0 : Int32))] 1 g.2.1 G.1 (wkNFs (w66 g.1)) (w86 g.1) (w64 g.1) (w66 g.1) (w65 g.1) (w3 g.1) (w67 g.1) (by decide) diin_11 (lenOf pd8 rfl) rfl rfl rfl (by simp) (Nat.le_of_eq rfl) (by decide) (by decide) (by decide) (by decide) rfl ?_
  rintro v108 _ o108 ⟨rfl, rfl, rfl⟩ K108
  refine wkP.icmpT 21 diin_14 (show (0 : Int32) = (0 : Int32) from (by decide)) (by decide) (by decide) ?_
  exact wkP.ret0 [] g.2.1 diin_21 rfl (by decide) (by decide) (by simp) ⟨rfl, rfl, rfl⟩
set_option maxRecDepth 65536 in
set_option maxHeartbeats 4000000 in
theorem M_iin1 (l : Launch) (Z : State) (a0 : Array Value) (g : G Z a0) (h : Heap) (a x s t : Addr) (ys cs : List Int32) (m : Nat) (F : Sb Z h a x 1 m ys) (G : SL Z h s t cs) : wkM l Z biin riin #[.ref a, .ref s] h [] (fun v h' os => v = none ∧ os = [] ∧ h = h') := by
  refine wkM.of #[.val (.ref a), .val (.ref s)] (plainFor_of_name (by first | (simp [plainName, overriddenIn]; done) | decide +kernel)) (fun m => by first | rfl | (simp [entryFrame, mkF, argsToLocals, Value.category]; done)) ?_
  obtain ⟨zc, hzc, hzn⟩ := g.2.2.1
  refine wkP.getS 3 (w43 g.1) hzc Via.refl diin_0 rfl ?_
  refine wkP.ifF 6 diin_3 (show ¬ (zc = (0 : Int32)) from hzn) rfl ?_
  refine wkP.aloadN 7 diin_6 rfl rfl rfl ?_
  refine wkP.getF 10 (w46 g.1) F.2.2.1 Via.refl diin_7 rfl ?_
  refine wkP.aloadN 11 diin_10 rfl rfl rfl ?_
  refine wkP.callV 14 (M_coderL l Z a0 g _ s t cs G) [] [(.int (1 : Int32))] 1 g.2.1 G.1 (wkNFs (w66 g.1)) (w86 g.1) (w64 g.1) (w66 g.1) (w65 g.1) (w3 g.1) (w67 g.1) (by decide) diin_11 (lenOf pd8 rfl) rfl rfl rfl (by simp) (Nat.le_of_eq rfl) (by decide) (by decide) (by decide) (by decide) rfl ?_
  rintro v109 _ o109 ⟨rfl, rfl, rfl⟩ K109
  refine wkP.icmpF 17 diin_14 (show ¬ ((1 : Int32) = (0 : Int32)) from (by decide)) rfl ?_
  refine wkP.aloadN 18 diin_17 rfl rfl rfl ?_
  refine wkP.callV 21 (M_inf1 l Z a0 g _ a x m ys F) [] [] 0 g.2.1 F.1 (wkNFs (w275 g.1)) (w272 g.1) (wkDecl (w273 g.1) (w276 g.1)) (w275 g.1) (w273 g.1) (w40 g.1) (w276 g.1) (by decide) diin_18 (lenOf pd19 rfl) rfl rfl rfl (by simp) (Nat.le_of_eq rfl) (by decide) (by decide) (by decide) (by decide) rfl ?_
  rintro v110 _ o110 ⟨rfl, rfl, rfl⟩ K110
  exact wkP.ret0 [] g.2.1 diin_21 rfl (by decide) (by decide) (by simp) ⟨rfl, rfl, rfl⟩
set_option maxRecDepth 65536 in
set_option maxHeartbeats 4000000 in
theorem M_iinU (l : Launch) (Z : State) (a0 : Array Value) (g : G Z a0) (h : Heap) (a x s t : Addr) (ys cs : List Int32) (F : Sb Z h a x 0 0 ys) (hy : ys.length = 16) (G : SU Z h s t cs) : wkM l Z biin riin #[.ref a, .ref s] h [a] (fun v h' os => ∃ d zs, v = none ∧ h.size ≤ d ∧ os = [d] ∧ Sb Z h' a d 1 0 zs ∧ zs.length = 32) := by
  refine wkM.of #[.val (.ref a), .val (.ref s)] (plainFor_of_name (by first | (simp [plainName, overriddenIn]; done) | decide +kernel)) (fun m => by first | rfl | (simp [entryFrame, mkF, argsToLocals, Value.category]; done)) ?_
  obtain ⟨zc, hzc, hzn⟩ := g.2.2.1
  refine wkP.getS 3 (w43 g.1) hzc Via.refl diin_0 rfl ?_
  refine wkP.ifF 6 diin_3 (show ¬ (zc = (0 : Int32)) from hzn) rfl ?_
  refine wkP.aloadN 7 diin_6 rfl rfl rfl ?_
  refine wkP.getF 10 (w46 g.1) F.2.2.1 Via.refl diin_7 rfl ?_
  refine wkP.aloadN 11 diin_10 rfl rfl rfl ?_
  refine wkP.callV 14 (M_coderU l Z a0 g _ s t cs G) [] [(.int (0 : Int32))] 1 g.2.1 G.1 (wkNFs (w66 g.1)) (w86 g.1) (w64 g.1) (w66 g.1) (w65 g.1) (w3 g.1) (w67 g.1) (by decide) diin_11 (lenOf pd8 rfl) rfl rfl rfl (by simp) (Nat.le_of_eq rfl) (by decide) (by decide) (by decide) (by decide) rfl ?_
  rintro v111 _ o111 ⟨rfl, rfl, rfl⟩ K111
  refine wkP.icmpF 17 diin_14 (show ¬ ((0 : Int32) = (1 : Int32)) from (by decide)) rfl ?_
  refine wkP.aloadN 18 diin_17 rfl rfl rfl ?_
  refine wkP.callV 21 (M_inf0 l Z a0 g _ a x ys F hy) [] [] 0 g.2.1 F.1 (wkNFs (w275 g.1)) (w272 g.1) (wkDecl (w273 g.1) (w276 g.1)) (w275 g.1) (w273 g.1) (w40 g.1) (w276 g.1) (by decide) diin_18 (lenOf pd19 rfl) rfl rfl rfl (by simp) (Nat.le_of_eq rfl) (by decide) (by decide) (by decide) (by decide) rfl ?_
  rintro v112 h112 o112 ⟨d, zs, rfl, gd, rfl, H, hz⟩ K112
  have z112 := K112.1
  exact wkP.ret0 [d] g.2.1 diin_21 rfl (by decide) (by decide) (by simp) ⟨d, zs, rfl, gd, rfl, H, hz⟩
abbrev rps : Room := { frames := 7, cells := 1, slots := 32, locals := 102 }
set_option maxRecDepth 65536 in
set_option maxHeartbeats 4000000 in
theorem M_psLL (l : Launch) (Z : State) (a0 : Array Value) (g : G Z a0) (h : Heap) (a x s t : Addr) (m : Nat) (ys cs : List Int32) (F : Sb Z h a x 0 m ys) (hy : ys.length = 16) (G : SL Z h s t cs) (hm : m + cs.length ≤ 16) : wkM l Z bps rps #[.ref a, .int (Int32.ofNat m), .ref s] h [x] (fun v h' os => ∃ zs, v = none ∧ os = [] ∧ Sb Z h' a x 0 m zs ∧ zs.length = 16 ∧ zs.take (m + cs.length) = ys.take m ++ cs.map lo8) := by
  refine wkM.of #[.val (.ref a), .val (.int (Int32.ofNat m)), .val (.ref s)] (plainFor_of_name (by first | (simp [plainName, overriddenIn]; done) | decide +kernel)) (fun m => by first | rfl | (simp [entryFrame, mkF, argsToLocals, Value.category]; done)) ?_
  have la := F.lta
  have lx := F.ltv
  have ls := exaLt G.1
  have lt := G.2.2.2.1.lt
  have hax : @Ne Nat a x := exaNeIa F.1 (w31 g.1) F.2.2.2.2.2
  refine wkP.aloadN 1 dps_0 rfl rfl rfl ?_
  refine wkP.aloadN 2 dps_1 rfl rfl rfl ?_
  refine wkP.callV 5 (M_iin0 l Z a0 g _ a x s t ys cs m F G) [(.ref s)] [] 0 g.2.1 F.1 (wkNFs (w84 g.1)) (w81 g.1) (wkDecl (w82 g.1) (w85 g.1)) (w84 g.1) (w82 g.1) (w40 g.1) (w85 g.1) (by decide) dps_2 (lenOf pd20 rfl) rfl rfl rfl (by simp) (Nat.le_of_eq rfl) (by decide) (by decide) (by decide) (by decide) rfl ?_
  rintro v113 _ o113 ⟨rfl, rfl, rfl⟩ K113
  refine wkP.aloadN 6 dps_5 rfl rfl rfl ?_
  refine wkP.aloadN 7 dps_6 rfl rfl rfl ?_
  refine wkP.getF 10 (w44 g.1) F.2.1 Via.refl dps_7 rfl ?_
  refine wkP.iloadN 11 dps_10 rfl rfl ?_
  refine wkP.aloadN 12 dps_11 rfl rfl rfl ?_
  refine wkP.getF 15 (w46 g.1) F.2.2.1 Via.refl dps_12 rfl ?_
  refine wkP.callV 18 (M_gbLL l Z a0 g _ s t x cs ys m G F.2.2.2.2.2 (by omega)) [(.ref x), (.int (Int32.ofNat m)), (.int (0 : Int32))] [] 0 g.2.1 G.1 (wkNFs (w90 g.1)) (w87 g.1) (w88 g.1) (w90 g.1) (w89 g.1) (w3 g.1) (w91 g.1) (by decide) dps_15 (lenOf pd21 rfl) rfl rfl rfl (by simp) (Nat.le_of_eq rfl) (by decide) (by decide) (by decide) (by decide) rfl ?_
  rintro v114 h114 o114 ⟨zs, rfl, rfl, A114, hz, ht⟩ K114
  have z114 := K114.1
  have Fq1_115 := (F.1.keep K114)
  have Fq2q1_116 := (F.2.1.keep K114 (nnS hax nn0))
  have Fq2q2q1_117 := (F.2.2.1.keep K114 (nnS hax nn0))
  have Fq2q2q2q1_118 := (F.2.2.2.1.keep K114 (nnS hax nn0))
  have Fq2q2q2q2q1_119 := (F.2.2.2.2.1.keep K114 (nnS hax nn0))
  exact wkP.ret0 [] g.2.1 dps_18 rfl (by decide) (by decide) (by simp) ⟨zs, rfl, rfl, ⟨Fq1_115, Fq2q1_116, Fq2q2q1_117, Fq2q2q2q1_118, Fq2q2q2q2q1_119, A114⟩, hz.trans hy, ht⟩
set_option maxRecDepth 65536 in
set_option maxHeartbeats 4000000 in
theorem M_psUL (l : Launch) (Z : State) (a0 : Array Value) (g : G Z a0) (h : Heap) (a x s t : Addr) (m : Nat) (ys cs : List Int32) (F : Sb Z h a x 1 m ys) (hy : ys.length = 32) (G : SL Z h s t cs) (hm : m + cs.length ≤ 16) (htx : @Ne Nat t x) : wkM l Z bps rps #[.ref a, .int (Int32.ofNat m), .ref s] h [x] (fun v h' os => ∃ zs, v = none ∧ os = [] ∧ Sb Z h' a x 1 m zs ∧ zs.length = 32 ∧ zs.take (2 * (m + cs.length)) = ys.take (2 * m) ++ u16 cs) := by
  refine wkM.of #[.val (.ref a), .val (.int (Int32.ofNat m)), .val (.ref s)] (plainFor_of_name (by first | (simp [plainName, overriddenIn]; done) | decide +kernel)) (fun m => by first | rfl | (simp [entryFrame, mkF, argsToLocals, Value.category]; done)) ?_
  have la := F.lta
  have lx := F.ltv
  have ls := exaLt G.1
  have lt := G.2.2.2.1.lt
  have hax : @Ne Nat a x := exaNeIa F.1 (w31 g.1) F.2.2.2.2.2
  refine wkP.aloadN 1 dps_0 rfl rfl rfl ?_
  refine wkP.aloadN 2 dps_1 rfl rfl rfl ?_
  refine wkP.callV 5 (M_iin1 l Z a0 g _ a x s t ys cs m F G) [(.ref s)] [] 0 g.2.1 F.1 (wkNFs (w84 g.1)) (w81 g.1) (wkDecl (w82 g.1) (w85 g.1)) (w84 g.1) (w82 g.1) (w40 g.1) (w85 g.1) (by decide) dps_2 (lenOf pd20 rfl) rfl rfl rfl (by simp) (Nat.le_of_eq rfl) (by decide) (by decide) (by decide) (by decide) rfl ?_
  rintro v120 _ o120 ⟨rfl, rfl, rfl⟩ K120
  refine wkP.aloadN 6 dps_5 rfl rfl rfl ?_
  refine wkP.aloadN 7 dps_6 rfl rfl rfl ?_
  refine wkP.getF 10 (w44 g.1) F.2.1 Via.refl dps_7 rfl ?_
  refine wkP.iloadN 11 dps_10 rfl rfl ?_
  refine wkP.aloadN 12 dps_11 rfl rfl rfl ?_
  refine wkP.getF 15 (w46 g.1) F.2.2.1 Via.refl dps_12 rfl ?_
  refine wkP.callV 18 (M_gbLU l Z a0 g _ s t x cs ys m G F.2.2.2.2.2 htx 16 (by omega) hm) [(.ref x), (.int (Int32.ofNat m)), (.int (1 : Int32))] [] 0 g.2.1 G.1 (wkNFs (w90 g.1)) (w87 g.1) (w88 g.1) (w90 g.1) (w89 g.1) (w3 g.1) (w91 g.1) (by decide) dps_15 (lenOf pd21 rfl) rfl rfl rfl (by simp) (Nat.le_of_eq rfl) (by decide) (by decide) (by decide) (by decide) rfl ?_
  rintro v121 h121 o121 ⟨zs, rfl, rfl, A121, hz, ht⟩ K121
  have z121 := K121.1
  have Fq1_122 := (F.1.keep K121)
  have Fq2q1_123 := (F.2.1.keep K121 (nnS hax nn0))
  have Fq2q2q1_124 := (F.2.2.1.keep K121 (nnS hax nn0))
  have Fq2q2q2q1_125 := (F.2.2.2.1.keep K121 (nnS hax nn0))
  have Fq2q2q2q2q1_126 := (F.2.2.2.2.1.keep K121 (nnS hax nn0))
  exact wkP.ret0 [] g.2.1 dps_18 rfl (by decide) (by decide) (by simp) ⟨zs, rfl, rfl, ⟨Fq1_122, Fq2q1_123, Fq2q2q1_124, Fq2q2q2q1_125, Fq2q2q2q2q1_126, A121⟩, hz.trans hy, ht⟩
set_option maxRecDepth 65536 in
set_option maxHeartbeats 4000000 in
theorem M_psLU (l : Launch) (Z : State) (a0 : Array Value) (g : G Z a0) (h : Heap) (a x s t : Addr) (m : Nat) (ys cs : List Int32) (F : Sb Z h a x 0 0 ys) (hy : ys.length = 16) (G : SU Z h s t cs) (hm : cs.length ≤ 16) (hsa : @Ne Nat s a) (hta : @Ne Nat t a) : wkM l Z bps rps #[.ref a, .int (Int32.ofNat 0), .ref s] h [a] (fun v h' os => ∃ d zs, v = none ∧ h.size ≤ d ∧ os = [d] ∧ Sb Z h' a d 1 0 zs ∧ zs.length = 32 ∧ zs.take (2 * cs.length) = u16 cs) := by
  refine wkM.of #[.val (.ref a), .val (.int (Int32.ofNat 0)), .val (.ref s)] (plainFor_of_name (by first | (simp [plainName, overriddenIn]; done) | decide +kernel)) (fun m => by first | rfl | (simp [entryFrame, mkF, argsToLocals, Value.category]; done)) ?_
  have la := F.lta
  have lx := F.ltv
  have ls := exaLt G.1
  have lt := G.2.2.2.1.lt
  refine wkP.aloadN 1 dps_0 rfl rfl rfl ?_
  refine wkP.aloadN 2 dps_1 rfl rfl rfl ?_
  refine wkP.callV 5 (M_iinU l Z a0 g _ a x s t ys cs F hy G) [(.ref s)] [] 0 g.2.1 F.1 (wkNFs (w84 g.1)) (w81 g.1) (wkDecl (w82 g.1) (w85 g.1)) (w84 g.1) (w82 g.1) (w40 g.1) (w85 g.1) (by decide) dps_2 (lenOf pd20 rfl) rfl rfl rfl (by simp) (Nat.le_of_eq rfl) (by decide) (by decide) (by decide) (by decide) rfl ?_
  rintro v127 h127 o127 ⟨d, zs, rfl, gd, rfl, H, hz⟩ K127
  have z127 := K127.1
  have ld := H.ltv
  refine wkP.aloadN 6 dps_5 rfl rfl rfl ?_
  refine wkP.aloadN 7 dps_6 rfl rfl rfl ?_
  have had : @Ne Nat a d := by omega
  refine wkP.getF 10 (w44 g.1) H.2.1 Via.refl dps_7 rfl ?_
  refine wkP.iloadN 11 dps_10 rfl rfl ?_
  refine wkP.aloadN 12 dps_11 rfl rfl rfl ?_
  refine wkP.getF 15 (w46 g.1) H.2.2.1 Via.refl dps_12 rfl ?_
  have G_128 := (G.keep K127 (nnS hsa nn0) (nnS hta nn0))
  refine wkP.callV 18 (M_gbUU l Z a0 g _ s t d cs zs 0 G_128 H.2.2.2.2.2 (by omega)) [(.ref d), (.int (Int32.ofNat 0)), (.int (1 : Int32))] [] 0 g.2.1 G_128.1 (wkNFs (w90 g.1)) (w87 g.1) (w88 g.1) (w90 g.1) (w89 g.1) (w3 g.1) (w91 g.1) (by decide) dps_15 (lenOf pd21 rfl) rfl rfl rfl (by simp) (Nat.le_of_eq rfl) (by decide) (by decide) (by decide) (by decide) rfl ?_
  rintro v129 h129 o129 ⟨zs', rfl, rfl, A129, hz', ht'⟩ K129
  have z129 := K129.1
  have Hq1_130 := (H.1.keep K129)
  have Hq2q1_131 := (H.2.1.keep K129 (nnS had nn0))
  have Hq2q2q1_132 := (H.2.2.1.keep K129 (nnS had nn0))
  have Hq2q2q2q1_133 := (H.2.2.2.1.keep K129 (nnS had nn0))
  have Hq2q2q2q2q1_134 := (H.2.2.2.2.1.keep K129 (nnS had nn0))
  exact wkP.ret0 [d] g.2.1 dps_18 rfl (by decide) (by decide) (by simp) ⟨d, zs', rfl, gd, rfl, ⟨Hq1_130, Hq2q1_131, Hq2q2q1_132, Hq2q2q2q1_133, Hq2q2q2q2q1_134, A129⟩, hz'.trans hz, by simpa using ht'⟩
abbrev rapn : Room := { frames := 1, cells := 0, slots := 0, locals := 14 }
instance (cs : List Int32) : Decidable (lat cs) := by unfold lat; infer_instance
set_option maxRecDepth 65536 in
set_option maxHeartbeats 4000000 in
theorem M_apn (l : Launch) (Z : State) (a0 : Array Value) (g : G Z a0) (h : Heap) (a x : Addr) (F0 : SbL Z h a x []) : wkM l Z bapn rapn #[.ref a] h [a, x] (fun v h' os => v = some (.ref a) ∧ os = [] ∧ SbL Z h' a x [110, 117, 108, 108]) := by
  refine wkM.of #[.val (.ref a), .unset, .unset] (plainFor_of_name (by first | (simp [plainName, overriddenIn]; done) | decide +kernel)) (fun m => by first | rfl | (simp [entryFrame, mkF, argsToLocals, Value.category]; done)) ?_
  obtain ⟨ys, F, hy, -, -, -, X⟩ := F0
  have hax : @Ne Nat a x := exaNeIa F.1 (w31 g.1) F.2.2.2.2.2
  obtain ⟨y0, y1, y2, y3, y4, y5, y6, y7, y8, y9, y10, y11, y12, y13, y14, y15, rfl⟩ : ∃ y0 y1 y2 y3 y4 y5 y6 y7 y8 y9 y10 y11 y12 y13 y14 y15 : Int32, ys = [y0, y1, y2, y3, y4, y5, y6, y7, y8, y9, y10, y11, y12, y13, y14, y15] := by
    match ys, hy with
    | [y0, y1, y2, y3, y4, y5, y6, y7, y8, y9, y10, y11, y12, y13, y14, y15], _ => exact ⟨_, _, _, _, _, _, _, _, _, _, _, _, _, _, _, _, rfl⟩
  refine wkP.aloadN 1 dapn_0 rfl rfl rfl ?_
  refine wkP.aloadN 2 dapn_1 rfl rfl rfl ?_
  refine wkP.getF 5 (w69 g.1) F.2.2.2.1 Via.refl dapn_2 rfl ?_
  refine wkP.iconst 6 (4 : Int32) dapn_5 rfl rfl ?_
  refine wkP.iadd 7 (4 : Int32) dapn_6 (by decide) rfl ?_
  refine wkP.callV 10 (M_ens0 l Z a0 g _ a x 0 4 _ F hy (by omega)) [(.int (4 : Int32))] [] 0 g.2.1 F.1 (wkNFs (w74 g.1)) (w71 g.1) (wkDecl (w72 g.1) (w75 g.1)) (w74 g.1) (w72 g.1) (w40 g.1) (w75 g.1) (by decide) dapn_7 (lenOf pd14 rfl) rfl rfl rfl (by simp) (Nat.le_of_eq rfl) (by decide) (by decide) (by decide) (by decide) rfl ?_
  rintro v135 _ o135 ⟨rfl, rfl, rfl⟩ K135
  refine wkP.aloadN 11 dapn_10 rfl rfl rfl ?_
  refine wkP.getF 14 (w69 g.1) F.2.2.2.1 Via.refl dapn_11 rfl ?_
  refine wkP.istoreN 15 #[.val (.ref a), .val (.int (0 : Int32)), .unset] dapn_14 rfl rfl ?_
  refine wkP.aloadN 16 dapn_15 rfl rfl rfl ?_
  refine wkP.getF 19 (w44 g.1) F.2.1 Via.refl dapn_16 rfl ?_
  refine wkP.astoreN 20 #[.val (.ref a), .val (.int (0 : Int32)), .val (.ref x)] dapn_19 rfl rfl rfl ?_
  refine wkP.aloadN 21 dapn_20 rfl rfl rfl ?_
  refine wkP.callV 24 (M_sbL0 l Z a0 g _ a x 0 _ F) [] [] 0 g.2.1 F.1 (wkNFs (w125 g.1)) (w233 g.1) (w123 g.1) (w125 g.1) (w124 g.1) (w40 g.1) (w126 g.1) (by decide) dapn_21 (lenOf pd13 rfl) rfl rfl rfl (by simp) (Nat.le_of_eq rfl) (by decide) (by decide) (by decide) (by decide) rfl ?_
  rintro v136 _ o136 ⟨rfl, rfl, rfl⟩ K136
  refine wkP.ifF 27 dapn_24 (show ¬ ((1 : Int32) = (0 : Int32)) from (by decide)) rfl ?_
  refine wkP.aloadN 28 dapn_27 rfl rfl rfl ?_
  refine wkP.iloadN 29 dapn_28 rfl rfl ?_
  refine wkP.iinc 32 (1 : Int32) #[.val (.ref a), .val (.int (1 : Int32)), .val (.ref x)] dapn_29 rfl (by decide) rfl rfl ?_
  refine wkP.bipush 34 (110 : Int32) dapn_32 rfl rfl ?_
  refine wkP.stB 35 0 (110 : Int32) F.2.2.2.2.2 dapn_34 rfl (by simp) rfl (by simp) rfl ?_
  intro h137 K137 A137
  have z137 := K137.1
  replace A137 : Ia Z h137 x .byte [(110 : Int32), y1, y2, y3, y4, y5, y6, y7, y8, y9, y10, y11, y12, y13, y14, y15] := A137
  refine wkP.aloadN 36 dapn_35 rfl rfl rfl ?_
  refine wkP.iloadN 37 dapn_36 rfl rfl ?_
  refine wkP.iinc 40 (2 : Int32) #[.val (.ref a), .val (.int (2 : Int32)), .val (.ref x)] dapn_37 rfl (by decide) rfl rfl ?_
  refine wkP.bipush 42 (117 : Int32) dapn_40 rfl rfl ?_
  refine wkP.stB 43 1 (117 : Int32) A137 dapn_42 rfl (by simp) rfl (by simp) rfl ?_
  intro h138 K138 A138
  have z138 := K138.1
  replace A138 : Ia Z h138 x .byte [(110 : Int32), (117 : Int32), y2, y3, y4, y5, y6, y7, y8, y9, y10, y11, y12, y13, y14, y15] := A138
  refine wkP.aloadN 44 dapn_43 rfl rfl rfl ?_
  refine wkP.iloadN 45 dapn_44 rfl rfl ?_
  refine wkP.iinc 48 (3 : Int32) #[.val (.ref a), .val (.int (3 : Int32)), .val (.ref x)] dapn_45 rfl (by decide) rfl rfl ?_
  refine wkP.bipush 50 (108 : Int32) dapn_48 rfl rfl ?_
  refine wkP.stB 51 2 (108 : Int32) A138 dapn_50 rfl (by simp) rfl (by simp) rfl ?_
  intro h139 K139 A139
  have z139 := K139.1
  replace A139 : Ia Z h139 x .byte [(110 : Int32), (117 : Int32), (108 : Int32), y3, y4, y5, y6, y7, y8, y9, y10, y11, y12, y13, y14, y15] := A139
  refine wkP.aloadN 52 dapn_51 rfl rfl rfl ?_
  refine wkP.iloadN 53 dapn_52 rfl rfl ?_
  refine wkP.iinc 56 (4 : Int32) #[.val (.ref a), .val (.int (4 : Int32)), .val (.ref x)] dapn_53 rfl (by decide) rfl rfl ?_
  refine wkP.bipush 58 (108 : Int32) dapn_56 rfl rfl ?_
  refine wkP.stB 59 3 (108 : Int32) A139 dapn_58 rfl (by simp) rfl (by simp) rfl ?_
  intro h140 K140 A140
  have z140 := K140.1
  replace A140 : Ia Z h140 x .byte [(110 : Int32), (117 : Int32), (108 : Int32), (108 : Int32), y4, y5, y6, y7, y8, y9, y10, y11, y12, y13, y14, y15] := A140
  refine wkP.goto 76 dapn_59 (by decide) (by decide) ?_
  refine wkP.aloadN 77 dapn_76 rfl rfl rfl ?_
  refine wkP.iloadN 78 dapn_77 rfl rfl ?_
  have Fq2q2q2q1_141 := ((((F.2.2.2.1.keep K137 (nnS hax nn0)).keep K138 (nnS hax nn0)).keep K139 (nnS hax nn0)).keep K140 (nnS hax nn0))
  have Fq1_142 := ((((F.1.keep K137).keep K138).keep K139).keep K140)
  have Fq2q1_143 := ((((F.2.1.keep K137 (nnS hax nn0)).keep K138 (nnS hax nn0)).keep K139 (nnS hax nn0)).keep K140 (nnS hax nn0))
  have Fq2q2q1_144 := ((((F.2.2.1.keep K137 (nnS hax nn0)).keep K138 (nnS hax nn0)).keep K139 (nnS hax nn0)).keep K140 (nnS hax nn0))
  have Fq2q2q2q2q1_145 := ((((F.2.2.2.2.1.keep K137 (nnS hax nn0)).keep K138 (nnS hax nn0)).keep K139 (nnS hax nn0)).keep K140 (nnS hax nn0))
  refine wkP.putF 81 (w69 g.1) Fq2q2q2q1_141 Fq1_142 (Or.inl (w70 g.1)) (w31 g.1) (ty := .int) (by decide) rfl rfl dapn_78 (by simp) rfl ?_
  intro h146 K146 W146
  have z146 := K146.1
  have F146 := Fld.same W146 Fq2q2q2q1_141
  have E146 := Exa.wr W146 Fq1_142
  have F147 := Fld.other W146 Fq2q1_143 (Or.inr (slot_ne (t := (.array .byte)) (t' := .int) (Or.inl (w45 g.1)) (Or.inl (w70 g.1)) (by decide) (by decide) (by decide)))
  have F148 := Fld.other W146 Fq2q2q1_144 (Or.inr (slot_ne (t := .byte) (t' := .int) (Or.inl (w47 g.1)) (Or.inl (w70 g.1)) (by decide) (by decide) (by decide)))
  have F149 := Fld.other W146 Fq2q2q2q2q1_145 (Or.inr (slot_ne (t := .boolean) (t' := .int) (Or.inl (w298 g.1)) (Or.inl (w70 g.1)) (by decide) (by decide) (by decide)))
  refine wkP.aloadN 82 dapn_81 rfl rfl rfl ?_
  have A140_150 := (A140.keep K146 (nnS (Ne.symm hax) nn0))
  have X_151 := (((((X.keep K137).keep K138).keep K139).keep K140).keep K146)
  exact wkP.retA (.object "java/lang/AbstractStringBuilder") [] g.2.1 dapn_82 rfl rfl (by decide) (by decide) (by simp) ⟨rfl, rfl, _, ⟨E146, F147, F148, F146, F149, A140_150⟩, rfl, by decide, rfl, (by decide), X_151⟩
abbrev raap : Room := { frames := 8, cells := 1, slots := 32, locals := 116 }
set_option maxRecDepth 65536 in
set_option maxHeartbeats 4000000 in
theorem M_aapLL (l : Launch) (Z : State) (a0 : Array Value) (g : G Z a0) (h : Heap) (a x : Addr) (s t : Addr) (es cs : List Int32) (F0 : SbL Z h a x es) (G : SL Z h s t cs) (hm : es.length + cs.length ≤ 16) : wkM l Z baap raap #[.ref a, .ref s] h [a, x] (fun v h' os => v = some (.ref a) ∧ os = [] ∧ SbL Z h' a x (es ++ cs)) := by
  refine wkM.of #[.val (.ref a), .val (.ref s), .unset] (plainFor_of_name (by first | (simp [plainName, overriddenIn]; done) | decide +kernel)) (fun m => by first | rfl | (simp [entryFrame, mkF, argsToLocals, Value.category]; done)) ?_
  obtain ⟨ys, F, hy, hl, ht, hla, X⟩ := F0
  have la := F.lta
  have lx := F.ltv
  have hax : @Ne Nat a x := exaNeIa F.1 (w31 g.1) F.2.2.2.2.2
  refine wkP.aloadN 1 daap_0 rfl rfl rfl ?_
  refine wkP.ifnonnullT 9 daap_1 (by decide) rfl ?_
  refine wkP.aloadN 10 daap_9 rfl rfl rfl ?_
  refine wkP.callV 13 (M_len l Z a0 g _ s t cs (Or.inl G)) [] [] 0 g.2.1 G.1 (wkNFs (w61 g.1)) (w58 g.1) (w59 g.1) (w61 g.1) (w60 g.1) (w3 g.1) (w62 g.1) (by decide) daap_10 (lenOf pd22 rfl) rfl rfl rfl (by simp) (Nat.le_of_eq rfl) (by decide) (by decide) (by decide) (by decide) rfl ?_
  rintro v152 _ o152 ⟨rfl, rfl, rfl⟩ K152
  refine wkP.istoreN 14 #[.val (.ref a), .val (.ref s), .val (.int (Int32.ofNat cs.length))] daap_13 rfl rfl ?_
  refine wkP.aloadN 15 daap_14 rfl rfl rfl ?_
  refine wkP.aloadN 16 daap_15 rfl rfl rfl ?_
  refine wkP.getF 19 (w69 g.1) F.2.2.2.1 Via.refl daap_16 rfl ?_
  refine wkP.iloadN 20 daap_19 rfl rfl ?_
  refine wkP.iadd 21 (Int32.ofNat (es.length + cs.length)) daap_20 add_of rfl ?_
  refine wkP.callV 24 (M_ens0 l Z a0 g _ a x es.length (es.length + cs.length) ys F hy (by omega)) [(.int (Int32.ofNat (es.length + cs.length)))] [] 0 g.2.1 F.1 (wkNFs (w74 g.1)) (w71 g.1) (wkDecl (w72 g.1) (w75 g.1)) (w74 g.1) (w72 g.1) (w40 g.1) (w75 g.1) (by decide) daap_21 (lenOf pd14 rfl) rfl rfl rfl (by simp) (Nat.le_of_eq rfl) (by decide) (by decide) (by decide) (by decide) rfl ?_
  rintro v153 _ o153 ⟨rfl, rfl, rfl⟩ K153
  refine wkP.aloadN 25 daap_24 rfl rfl rfl ?_
  refine wkP.aloadN 26 daap_25 rfl rfl rfl ?_
  refine wkP.getF 29 (w69 g.1) F.2.2.2.1 Via.refl daap_26 rfl ?_
  refine wkP.aloadN 30 daap_29 rfl rfl rfl ?_
  refine wkP.callV 33 (M_psLL l Z a0 g _ a x s t es.length ys cs F hy G hm) [(.int (Int32.ofNat es.length)), (.ref s)] [] 0 g.2.1 F.1 (wkNFs (w79 g.1)) (w76 g.1) (wkDecl (w77 g.1) (w80 g.1)) (w79 g.1) (w77 g.1) (w40 g.1) (w80 g.1) (by decide) daap_30 (lenOf pd23 rfl) rfl rfl rfl (by simp) (Nat.le_of_eq rfl) (by decide) (by decide) (by decide) (by decide) rfl ?_
  rintro v154 h154 o154 ⟨zs, rfl, rfl, H, hz, hzt⟩ K154
  have z154 := K154.1
  refine wkP.aloadN 34 daap_33 rfl rfl rfl ?_
  refine wkP.dup 35 daap_34 rfl rfl ?_
  refine wkP.getF 38 (w69 g.1) H.2.2.2.1 Via.refl daap_35 rfl ?_
  refine wkP.iloadN 39 daap_38 rfl rfl ?_
  refine wkP.iadd 40 (Int32.ofNat (es.length + cs.length)) daap_39 add_of rfl ?_
  refine wkP.putF 43 (w69 g.1) H.2.2.2.1 H.1 (Or.inl (w70 g.1)) (w31 g.1) (ty := .int) (by decide) rfl rfl daap_40 (by simp) rfl ?_
  intro h155 K155 W155
  have z155 := K155.1
  have F155 := Fld.same W155 H.2.2.2.1
  have E155 := Exa.wr W155 H.1
  have F156 := Fld.other W155 H.2.1 (Or.inr (slot_ne (t := (.array .byte)) (t' := .int) (Or.inl (w45 g.1)) (Or.inl (w70 g.1)) (by decide) (by decide) (by decide)))
  have F157 := Fld.other W155 H.2.2.1 (Or.inr (slot_ne (t := .byte) (t' := .int) (Or.inl (w47 g.1)) (Or.inl (w70 g.1)) (by decide) (by decide) (by decide)))
  have F158 := Fld.other W155 H.2.2.2.2.1 (Or.inr (slot_ne (t := .boolean) (t' := .int) (Or.inl (w298 g.1)) (Or.inl (w70 g.1)) (by decide) (by decide) (by decide)))
  refine wkP.aloadN 44 daap_43 rfl rfl rfl ?_
  have Hq2q2q2q2q2_159 := (H.2.2.2.2.2.keep K155 (nnS (Ne.symm hax) nn0))
  have e : es.length + cs.length = (es ++ cs).length := by simp
  rw [e] at hzt
  have X_160 := ((X.keep K154).keep K155)
  exact wkP.retA (.object "java/lang/AbstractStringBuilder") [] g.2.1 daap_44 rfl rfl (by decide) (by decide) (by simp) ⟨rfl, rfl, zs, e ▸ ⟨E155, F156, F157, F155, F158, Hq2q2q2q2q2_159⟩, hz, by simpa using hm, by rw [hzt, ht, List.map_append], lat_app hla G.2.2.2.2, X_160⟩
set_option maxRecDepth 65536 in
set_option maxHeartbeats 4000000 in
theorem M_aapUL (l : Launch) (Z : State) (a0 : Array Value) (g : G Z a0) (h : Heap) (a x : Addr) (s t : Addr) (es cs : List Int32) (F0 : SbU Z h a x es) (G : SL Z h s t cs) (hm : es.length + cs.length ≤ 16) (htx : @Ne Nat t x) : wkM l Z baap raap #[.ref a, .ref s] h [a, x] (fun v h' os => v = some (.ref a) ∧ os = [] ∧ SbU Z h' a x (es ++ cs)) := by
  refine wkM.of #[.val (.ref a), .val (.ref s), .unset] (plainFor_of_name (by first | (simp [plainName, overriddenIn]; done) | decide +kernel)) (fun m => by first | rfl | (simp [entryFrame, mkF, argsToLocals, Value.category]; done)) ?_
  obtain ⟨ys, F, hy, hl, ht, hch⟩ := F0
  have la := F.lta
  have lx := F.ltv
  have hax : @Ne Nat a x := exaNeIa F.1 (w31 g.1) F.2.2.2.2.2
  refine wkP.aloadN 1 daap_0 rfl rfl rfl ?_
  refine wkP.ifnonnullT 9 daap_1 (by decide) rfl ?_
  refine wkP.aloadN 10 daap_9 rfl rfl rfl ?_
  refine wkP.callV 13 (M_len l Z a0 g _ s t cs (Or.inl G)) [] [] 0 g.2.1 G.1 (wkNFs (w61 g.1)) (w58 g.1) (w59 g.1) (w61 g.1) (w60 g.1) (w3 g.1) (w62 g.1) (by decide) daap_10 (lenOf pd22 rfl) rfl rfl rfl (by simp) (Nat.le_of_eq rfl) (by decide) (by decide) (by decide) (by decide) rfl ?_
  rintro v161 _ o161 ⟨rfl, rfl, rfl⟩ K161
  refine wkP.istoreN 14 #[.val (.ref a), .val (.ref s), .val (.int (Int32.ofNat cs.length))] daap_13 rfl rfl ?_
  refine wkP.aloadN 15 daap_14 rfl rfl rfl ?_
  refine wkP.aloadN 16 daap_15 rfl rfl rfl ?_
  refine wkP.getF 19 (w69 g.1) F.2.2.2.1 Via.refl daap_16 rfl ?_
  refine wkP.iloadN 20 daap_19 rfl rfl ?_
  refine wkP.iadd 21 (Int32.ofNat (es.length + cs.length)) daap_20 add_of rfl ?_
  refine wkP.callV 24 (M_ens1 l Z a0 g _ a x es.length (es.length + cs.length) ys F hy (by omega)) [(.int (Int32.ofNat (es.length + cs.length)))] [] 0 g.2.1 F.1 (wkNFs (w74 g.1)) (w71 g.1) (wkDecl (w72 g.1) (w75 g.1)) (w74 g.1) (w72 g.1) (w40 g.1) (w75 g.1) (by decide) daap_21 (lenOf pd14 rfl) rfl rfl rfl (by simp) (Nat.le_of_eq rfl) (by decide) (by decide) (by decide) (by decide) rfl ?_
  rintro v162 _ o162 ⟨rfl, rfl, rfl⟩ K162
  refine wkP.aloadN 25 daap_24 rfl rfl rfl ?_
  refine wkP.aloadN 26 daap_25 rfl rfl rfl ?_
  refine wkP.getF 29 (w69 g.1) F.2.2.2.1 Via.refl daap_26 rfl ?_
  refine wkP.aloadN 30 daap_29 rfl rfl rfl ?_
  refine wkP.callV 33 (M_psUL l Z a0 g _ a x s t es.length ys cs F hy G hm htx) [(.int (Int32.ofNat es.length)), (.ref s)] [] 0 g.2.1 F.1 (wkNFs (w79 g.1)) (w76 g.1) (wkDecl (w77 g.1) (w80 g.1)) (w79 g.1) (w77 g.1) (w40 g.1) (w80 g.1) (by decide) daap_30 (lenOf pd23 rfl) rfl rfl rfl (by simp) (Nat.le_of_eq rfl) (by decide) (by decide) (by decide) (by decide) rfl ?_
  rintro v163 h163 o163 ⟨zs, rfl, rfl, H, hz, hzt⟩ K163
  have z163 := K163.1
  refine wkP.aloadN 34 daap_33 rfl rfl rfl ?_
  refine wkP.dup 35 daap_34 rfl rfl ?_
  refine wkP.getF 38 (w69 g.1) H.2.2.2.1 Via.refl daap_35 rfl ?_
  refine wkP.iloadN 39 daap_38 rfl rfl ?_
  refine wkP.iadd 40 (Int32.ofNat (es.length + cs.length)) daap_39 add_of rfl ?_
  refine wkP.putF 43 (w69 g.1) H.2.2.2.1 H.1 (Or.inl (w70 g.1)) (w31 g.1) (ty := .int) (by decide) rfl rfl daap_40 (by simp) rfl ?_
  intro h164 K164 W164
  have z164 := K164.1
  have F164 := Fld.same W164 H.2.2.2.1
  have E164 := Exa.wr W164 H.1
  have F165 := Fld.other W164 H.2.1 (Or.inr (slot_ne (t := (.array .byte)) (t' := .int) (Or.inl (w45 g.1)) (Or.inl (w70 g.1)) (by decide) (by decide) (by decide)))
  have F166 := Fld.other W164 H.2.2.1 (Or.inr (slot_ne (t := .byte) (t' := .int) (Or.inl (w47 g.1)) (Or.inl (w70 g.1)) (by decide) (by decide) (by decide)))
  have F167 := Fld.other W164 H.2.2.2.2.1 (Or.inr (slot_ne (t := .boolean) (t' := .int) (Or.inl (w298 g.1)) (Or.inl (w70 g.1)) (by decide) (by decide) (by decide)))
  refine wkP.aloadN 44 daap_43 rfl rfl rfl ?_
  have Hq2q2q2q2q2_168 := (H.2.2.2.2.2.keep K164 (nnS (Ne.symm hax) nn0))
  have e : es.length + cs.length = (es ++ cs).length := by simp
  rw [e] at hzt
  exact wkP.retA (.object "java/lang/AbstractStringBuilder") [] g.2.1 daap_44 rfl rfl (by decide) (by decide) (by simp) ⟨rfl, rfl, zs, e ▸ ⟨E164, F165, F166, F164, F167, Hq2q2q2q2q2_168⟩, hz, by simpa using hm, by rw [hzt, ht, u16_app], chs_app hch (lat_chs G.2.2.2.2)⟩
set_option maxRecDepth 65536 in
set_option maxHeartbeats 4000000 in
theorem M_aapLU (l : Launch) (Z : State) (a0 : Array Value) (g : G Z a0) (h : Heap) (a x : Addr) (s t : Addr) (cs : List Int32) (F0 : SbL Z h a x []) (G : SU Z h s t cs) (hm : cs.length ≤ 16) (hsa : @Ne Nat s a) (hta : @Ne Nat t a) : wkM l Z baap raap #[.ref a, .ref s] h [a] (fun v h' os => ∃ d, v = some (.ref a) ∧ h.size ≤ d ∧ os = [d] ∧ SbU Z h' a d cs) := by
  refine wkM.of #[.val (.ref a), .val (.ref s), .unset] (plainFor_of_name (by first | (simp [plainName, overriddenIn]; done) | decide +kernel)) (fun m => by first | rfl | (simp [entryFrame, mkF, argsToLocals, Value.category]; done)) ?_
  obtain ⟨ys, F, hy, -, -, -, X⟩ := F0
  replace F : Sb Z h a x 0 0 ys := F
  have la := F.lta
  have lx := F.ltv
  have hax : @Ne Nat a x := exaNeIa F.1 (w31 g.1) F.2.2.2.2.2
  refine wkP.aloadN 1 daap_0 rfl rfl rfl ?_
  refine wkP.ifnonnullT 9 daap_1 (by decide) rfl ?_
  refine wkP.aloadN 10 daap_9 rfl rfl rfl ?_
  refine wkP.callV 13 (M_len l Z a0 g _ s t cs (Or.inr G)) [] [] 0 g.2.1 G.1 (wkNFs (w61 g.1)) (w58 g.1) (w59 g.1) (w61 g.1) (w60 g.1) (w3 g.1) (w62 g.1) (by decide) daap_10 (lenOf pd22 rfl) rfl rfl rfl (by simp) (Nat.le_of_eq rfl) (by decide) (by decide) (by decide) (by decide) rfl ?_
  rintro v169 _ o169 ⟨rfl, rfl, rfl⟩ K169
  refine wkP.istoreN 14 #[.val (.ref a), .val (.ref s), .val (.int (Int32.ofNat cs.length))] daap_13 rfl rfl ?_
  refine wkP.aloadN 15 daap_14 rfl rfl rfl ?_
  refine wkP.aloadN 16 daap_15 rfl rfl rfl ?_
  refine wkP.getF 19 (w69 g.1) F.2.2.2.1 Via.refl daap_16 rfl ?_
  refine wkP.iloadN 20 daap_19 rfl rfl ?_
  refine wkP.iadd 21 (Int32.ofNat (0 + cs.length)) daap_20 add_of rfl ?_
  refine wkP.callV 24 (M_ens0 l Z a0 g _ a x 0 (0 + cs.length) ys F hy (by omega)) [(.int (Int32.ofNat (0 + cs.length)))] [] 0 g.2.1 F.1 (wkNFs (w74 g.1)) (w71 g.1) (wkDecl (w72 g.1) (w75 g.1)) (w74 g.1) (w72 g.1) (w40 g.1) (w75 g.1) (by decide) daap_21 (lenOf pd14 rfl) rfl rfl rfl (by simp) (Nat.le_of_eq rfl) (by decide) (by decide) (by decide) (by decide) rfl ?_
  rintro v170 _ o170 ⟨rfl, rfl, rfl⟩ K170
  refine wkP.aloadN 25 daap_24 rfl rfl rfl ?_
  refine wkP.aloadN 26 daap_25 rfl rfl rfl ?_
  refine wkP.getF 29 (w69 g.1) F.2.2.2.1 Via.refl daap_26 rfl ?_
  refine wkP.aloadN 30 daap_29 rfl rfl rfl ?_
  refine wkP.callV 33 (M_psLU l Z a0 g _ a x s t 0 ys cs F hy G hm hsa hta) [(.int (Int32.ofNat 0)), (.ref s)] [] 0 g.2.1 F.1 (wkNFs (w79 g.1)) (w76 g.1) (wkDecl (w77 g.1) (w80 g.1)) (w79 g.1) (w77 g.1) (w40 g.1) (w80 g.1) (by decide) daap_30 (lenOf pd23 rfl) rfl rfl rfl (by simp) (Nat.le_of_eq rfl) (by decide) (by decide) (by decide) (by decide) rfl ?_
  rintro v171 h171 o171 ⟨d, zs, rfl, gd, rfl, H, hz, hzt⟩ K171
  have z171 := K171.1
  have ld := H.ltv
  have had : @Ne Nat a d := by omega
  refine wkP.aloadN 34 daap_33 rfl rfl rfl ?_
  refine wkP.dup 35 daap_34 rfl rfl ?_
  refine wkP.getF 38 (w69 g.1) H.2.2.2.1 Via.refl daap_35 rfl ?_
  refine wkP.iloadN 39 daap_38 rfl rfl ?_
  refine wkP.iadd 40 (Int32.ofNat (0 + cs.length)) daap_39 add_of rfl ?_
  refine wkP.putF 43 (w69 g.1) H.2.2.2.1 H.1 (Or.inl (w70 g.1)) (w31 g.1) (ty := .int) (by decide) rfl rfl daap_40 (by simp) rfl ?_
  intro h172 K172 W172
  have z172 := K172.1
  have F172 := Fld.same W172 H.2.2.2.1
  have E172 := Exa.wr W172 H.1
  have F173 := Fld.other W172 H.2.1 (Or.inr (slot_ne (t := (.array .byte)) (t' := .int) (Or.inl (w45 g.1)) (Or.inl (w70 g.1)) (by decide) (by decide) (by decide)))
  have F174 := Fld.other W172 H.2.2.1 (Or.inr (slot_ne (t := .byte) (t' := .int) (Or.inl (w47 g.1)) (Or.inl (w70 g.1)) (by decide) (by decide) (by decide)))
  have F175 := Fld.other W172 H.2.2.2.2.1 (Or.inr (slot_ne (t := .boolean) (t' := .int) (Or.inl (w298 g.1)) (Or.inl (w70 g.1)) (by decide) (by decide) (by decide)))
  refine wkP.aloadN 44 daap_43 rfl rfl rfl ?_
  have Hq2q2q2q2q2_176 := (H.2.2.2.2.2.keep K172 (nnS (Ne.symm had) nn0))
  have e : 0 + cs.length = cs.length := by simp
  exact wkP.retA (.object "java/lang/AbstractStringBuilder") [d] g.2.1 daap_44 rfl rfl (by decide) (by decide) (by simp) ⟨d, rfl, gd, rfl, zs, e ▸ ⟨E172, F173, F174, F172, F175, Hq2q2q2q2q2_176⟩, hz, hm, hzt, G.2.2.2.2.1⟩
set_option maxRecDepth 65536 in
set_option maxHeartbeats 4000000 in
theorem M_aapN (l : Launch) (Z : State) (a0 : Array Value) (g : G Z a0) (h : Heap) (a x : Addr) (F0 : SbL Z h a x []) : wkM l Z baap raap #[.ref a, .null] h [a, x] (fun v h' os => v = some (.ref a) ∧ os = [] ∧ SbL Z h' a x [110, 117, 108, 108]) := by
  refine wkM.of #[.val (.ref a), .val .null, .unset] (plainFor_of_name (by first | (simp [plainName, overriddenIn]; done) | decide +kernel)) (fun m => by first | rfl | (simp [entryFrame, mkF, argsToLocals, Value.category]; done)) ?_
  obtain ⟨ys, F, -⟩ := id F0
  refine wkP.aloadN 1 daap_0 rfl rfl rfl ?_
  refine wkP.ifnonnullF 4 daap_1 rfl ?_
  refine wkP.aloadN 5 daap_4 rfl rfl rfl ?_
  refine wkP.callV 8 (M_apn l Z a0 g _ a x F0) [] [] 0 g.2.1 F.1 (wkNFs (w231 g.1)) (w228 g.1) (wkDecl (w229 g.1) (w232 g.1)) (w231 g.1) (w229 g.1) (w40 g.1) (w232 g.1) (by decide) daap_5 (lenOf pd24 rfl) rfl rfl rfl (by simp) (Nat.le_of_eq rfl) (by decide) (by decide) (by decide) (by decide) rfl ?_
  rintro v177 h177 o177 ⟨rfl, rfl, H⟩ K177
  have z177 := K177.1
  exact wkP.retA (.object "java/lang/AbstractStringBuilder") [] g.2.1 daap_8 rfl rfl (by decide) (by decide) (by simp) ⟨rfl, rfl, H⟩
abbrev rbap : Room := { frames := 9, cells := 1, slots := 32, locals := 130 }
set_option maxRecDepth 65536 in
set_option maxHeartbeats 4000000 in
theorem M_bapLL (l : Launch) (Z : State) (a0 : Array Value) (g : G Z a0) (h : Heap) (a x : Addr) (s t : Addr) (es cs : List Int32) (F0 : SbL Z h a x es) (G : SL Z h s t cs) (hm : es.length + cs.length ≤ 16) : wkM l Z bbap rbap #[.ref a, .ref s] h [a, x] (fun v h' os => v = some (.ref a) ∧ os = [] ∧ SbL Z h' a x (es ++ cs)) := by
  refine wkM.of #[.val (.ref a), .val (.ref s)] (plainFor_of_name (by first | (simp [plainName, overriddenIn]; done) | decide +kernel)) (fun m => by first | rfl | (simp [entryFrame, mkF, argsToLocals, Value.category]; done)) ?_
  have E0 : Exa Z h a "java/lang/StringBuilder" := by obtain ⟨_, F, _⟩ := F0; exact F.1
  refine wkP.aloadN 1 dbap_0 rfl rfl rfl ?_
  refine wkP.aloadN 2 dbap_1 rfl rfl rfl ?_
  refine wkP.callU 5 (M_aapLL l Z a0 g _ a x s t es cs F0 G hm) [(.ref s)] [] 0 g.2.1 (Ins.self E0) (w53 g.1) (wkSame (by decide) (w74 g.1) rfl (w54 g.1)) (w54 g.1) (w55 g.1) (by decide) (w40 g.1) (w57 g.1) dbap_2 (lenOf pd25 rfl) rfl rfl rfl (by simp) (Nat.le_of_eq rfl) (by decide) (by decide) (by decide) (by decide) rfl ?_
  rintro v178 h178 o178 ⟨rfl, rfl, H⟩ K178
  have z178 := K178.1
  refine wkP.pop 6 dbap_5 rfl rfl ?_
  refine wkP.aloadN 7 dbap_6 rfl rfl rfl ?_
  exact wkP.retA (.object "java/lang/StringBuilder") [] g.2.1 dbap_7 rfl rfl (by decide) (by decide) (by simp) ⟨rfl, rfl, H⟩
set_option maxRecDepth 65536 in
set_option maxHeartbeats 4000000 in
theorem M_bapUL (l : Launch) (Z : State) (a0 : Array Value) (g : G Z a0) (h : Heap) (a x : Addr) (s t : Addr) (es cs : List Int32) (F0 : SbU Z h a x es) (G : SL Z h s t cs) (hm : es.length + cs.length ≤ 16) (htx : @Ne Nat t x) : wkM l Z bbap rbap #[.ref a, .ref s] h [a, x] (fun v h' os => v = some (.ref a) ∧ os = [] ∧ SbU Z h' a x (es ++ cs)) := by
  refine wkM.of #[.val (.ref a), .val (.ref s)] (plainFor_of_name (by first | (simp [plainName, overriddenIn]; done) | decide +kernel)) (fun m => by first | rfl | (simp [entryFrame, mkF, argsToLocals, Value.category]; done)) ?_
  have E0 : Exa Z h a "java/lang/StringBuilder" := by obtain ⟨_, F, _⟩ := F0; exact F.1
  refine wkP.aloadN 1 dbap_0 rfl rfl rfl ?_
  refine wkP.aloadN 2 dbap_1 rfl rfl rfl ?_
  refine wkP.callU 5 (M_aapUL l Z a0 g _ a x s t es cs F0 G hm htx) [(.ref s)] [] 0 g.2.1 (Ins.self E0) (w53 g.1) (wkSame (by decide) (w74 g.1) rfl (w54 g.1)) (w54 g.1) (w55 g.1) (by decide) (w40 g.1) (w57 g.1) dbap_2 (lenOf pd25 rfl) rfl rfl rfl (by simp) (Nat.le_of_eq rfl) (by decide) (by decide) (by decide) (by decide) rfl ?_
  rintro v179 h179 o179 ⟨rfl, rfl, H⟩ K179
  have z179 := K179.1
  refine wkP.pop 6 dbap_5 rfl rfl ?_
  refine wkP.aloadN 7 dbap_6 rfl rfl rfl ?_
  exact wkP.retA (.object "java/lang/StringBuilder") [] g.2.1 dbap_7 rfl rfl (by decide) (by decide) (by simp) ⟨rfl, rfl, H⟩
set_option maxRecDepth 65536 in
set_option maxHeartbeats 4000000 in
theorem M_bapLU (l : Launch) (Z : State) (a0 : Array Value) (g : G Z a0) (h : Heap) (a x : Addr) (s t : Addr) (cs : List Int32) (F0 : SbL Z h a x []) (G : SU Z h s t cs) (hm : cs.length ≤ 16) (hsa : @Ne Nat s a) (hta : @Ne Nat t a) : wkM l Z bbap rbap #[.ref a, .ref s] h [a] (fun v h' os => ∃ d, v = some (.ref a) ∧ h.size ≤ d ∧ os = [d] ∧ SbU Z h' a d cs) := by
  refine wkM.of #[.val (.ref a), .val (.ref s)] (plainFor_of_name (by first | (simp [plainName, overriddenIn]; done) | decide +kernel)) (fun m => by first | rfl | (simp [entryFrame, mkF, argsToLocals, Value.category]; done)) ?_
  have E0 : Exa Z h a "java/lang/StringBuilder" := by obtain ⟨_, F, _⟩ := F0; exact F.1
  refine wkP.aloadN 1 dbap_0 rfl rfl rfl ?_
  refine wkP.aloadN 2 dbap_1 rfl rfl rfl ?_
  refine wkP.callU 5 (M_aapLU l Z a0 g _ a x s t cs F0 G hm hsa hta) [(.ref s)] [] 0 g.2.1 (Ins.self E0) (w53 g.1) (wkSame (by decide) (w74 g.1) rfl (w54 g.1)) (w54 g.1) (w55 g.1) (by decide) (w40 g.1) (w57 g.1) dbap_2 (lenOf pd25 rfl) rfl rfl rfl (by simp) (Nat.le_of_eq rfl) (by decide) (by decide) (by decide) (by decide) rfl ?_
  rintro v180 h180 o180 ⟨d, rfl, gd, rfl, H⟩ K180
  have z180 := K180.1
  refine wkP.pop 6 dbap_5 rfl rfl ?_
  refine wkP.aloadN 7 dbap_6 rfl rfl rfl ?_
  exact wkP.retA (.object "java/lang/StringBuilder") [d] g.2.1 dbap_7 rfl rfl (by decide) (by decide) (by simp) ⟨d, rfl, gd, rfl, H⟩
set_option maxRecDepth 65536 in
set_option maxHeartbeats 4000000 in
theorem M_bapN (l : Launch) (Z : State) (a0 : Array Value) (g : G Z a0) (h : Heap) (a x : Addr) (F0 : SbL Z h a x []) : wkM l Z bbap rbap #[.ref a, .null] h [a, x] (fun v h' os => v = some (.ref a) ∧ os = [] ∧ SbL Z h' a x [110, 117, 108, 108]) := by
  refine wkM.of #[.val (.ref a), .val .null] (plainFor_of_name (by first | (simp [plainName, overriddenIn]; done) | decide +kernel)) (fun m => by first | rfl | (simp [entryFrame, mkF, argsToLocals, Value.category]; done)) ?_
  have E0 : Exa Z h a "java/lang/StringBuilder" := by obtain ⟨_, F, _⟩ := F0; exact F.1
  refine wkP.aloadN 1 dbap_0 rfl rfl rfl ?_
  refine wkP.aloadN 2 dbap_1 rfl rfl rfl ?_
  refine wkP.callU 5 (M_aapN l Z a0 g _ a x F0) [.null] [] 0 g.2.1 (Ins.self E0) (w53 g.1) (wkSame (by decide) (w74 g.1) rfl (w54 g.1)) (w54 g.1) (w55 g.1) (by decide) (w40 g.1) (w57 g.1) dbap_2 (lenOf pd25 rfl) rfl rfl rfl (by simp) (Nat.le_of_eq rfl) (by decide) (by decide) (by decide) (by decide) rfl ?_
  rintro v181 h181 o181 ⟨rfl, rfl, H⟩ K181
  have z181 := K181.1
  refine wkP.pop 6 dbap_5 rfl rfl ?_
  refine wkP.aloadN 7 dbap_6 rfl rfl rfl ?_
  exact wkP.retA (.object "java/lang/StringBuilder") [] g.2.1 dbap_7 rfl rfl (by decide) (by decide) (by simp) ⟨rfl, rfl, H⟩
abbrev rmin : Room := { frames := 0, cells := 0, slots := 0, locals := 0 }
set_option maxRecDepth 65536 in
set_option maxHeartbeats 4000000 in
theorem M_min (l : Launch) (Z : State) (a0 : Array Value) (g : G Z a0) (h : Heap) (i j : Nat) (hji : j ≤ i) (hi : i < 2 ^ 31) : wkM l Z bmin rmin #[.int (Int32.ofNat i), .int (Int32.ofNat j)] h [] (fun v h' os => v = some (.int (Int32.ofNat j)) ∧ os = [] ∧ h = h') := by
  refine wkM.of #[.val (.int (Int32.ofNat i)), .val (.int (Int32.ofNat j))] (Jvm.Free.JP.mathPlain rfl (by decide +kernel)) (fun m => by first | rfl | (simp [entryFrame, mkF, argsToLocals, Value.category]; done)) ?_
  refine wkP.iloadN 1 dmin_0 rfl rfl ?_
  refine wkP.iloadN 2 dmin_1 rfl rfl ?_
  by_cases hq : j < i
  · refine wkP.icmpT 9 dmin_2 (show (Int32.ofNat j) < (Int32.ofNat i) from ((ofNat_lt (by omega) hi).mpr hq)) (by decide) (by decide) ?_
    refine wkP.iloadN 10 dmin_9 rfl rfl ?_
    exact wkP.retI .int [] g.2.1 dmin_10 rfl (by simp) rfl (by decide) (by decide) (by simp) ⟨rfl, rfl, rfl⟩
  · refine wkP.icmpF 5 dmin_2 (show ¬ ((Int32.ofNat j) < (Int32.ofNat i)) from (fun q => hq ((ofNat_lt (by omega) hi).mp q))) rfl ?_
    refine wkP.iloadN 6 dmin_5 rfl rfl ?_
    refine wkP.goto 10 dmin_6 (by decide) (by decide) ?_
    obtain rfl : j = i := by omega
    exact wkP.retI .int [] g.2.1 dmin_10 rfl (by simp) rfl (by decide) (by decide) (by simp) ⟨rfl, rfl, rfl⟩
abbrev rckl : Room := { frames := 0, cells := 0, slots := 0, locals := 0 }
set_option maxRecDepth 65536 in
set_option maxHeartbeats 4000000 in
theorem M_ckl (l : Launch) (Z : State) (a0 : Array Value) (g : G Z a0) (h : Heap) (m : Nat) (hm : m < 2 ^ 31) : wkM l Z bckl rckl #[.int 0, .int (Int32.ofNat m)] h [] (fun v h' os => v = none ∧ os = [] ∧ h = h') := by
  refine wkM.of #[.val (.int (0 : Int32)), .val (.int (Int32.ofNat m))] (plainFor_of_name (by first | (simp [plainName, overriddenIn]; done) | decide +kernel)) (fun m => by first | rfl | (simp [entryFrame, mkF, argsToLocals, Value.category]; done)) ?_
  refine wkP.iloadN 1 dckl_0 rfl rfl ?_
  refine wkP.iloadN 2 dckl_1 rfl rfl ?_
  refine wkP.icmpT 37 dckl_2 (show ¬ (Int32.ofNat m) < (0 : Int32) from (nn_of hm)) (by decide) (by decide) ?_
  exact wkP.ret0 [] g.2.1 dckl_37 rfl (by decide) (by decide) (by simp) ⟨rfl, rfl, rfl⟩
abbrev rcrb : Room := { frames := 1, cells := 1, slots := 32, locals := 30 }
set_option maxRecDepth 65536 in
set_option maxHeartbeats 4000000 in
theorem M_crb (l : Launch) (Z : State) (a0 : Array Value) (g : G Z a0) (h : Heap) (b : Addr) (ys : List Int32) (m : Nat) (F : Ia Z h b .byte ys) (hm : m ≤ ys.length) (hc : m ≤ 32) : wkM l Z bcrb rcrb #[.ref b, .int 0, .int (Int32.ofNat m)] h [] (fun v h' os => ∃ d, v = some (.ref d) ∧ h.size ≤ d ∧ os = [d] ∧ Ia Z h' d .byte (ys.take m)) := by
  refine wkM.of #[.val (.ref b), .val (.int (0 : Int32)), .val (.int (Int32.ofNat m)), .unset, .unset] (plainFor_of_name (by first | (simp [plainName, overriddenIn]; done) | decide +kernel)) (fun m => by first | rfl | (simp [entryFrame, mkF, argsToLocals, Value.category]; done)) ?_
  have hL := F.len
  refine wkP.iloadN 1 dcrb_0 rfl rfl ?_
  refine wkP.iloadN 2 dcrb_1 rfl rfl ?_
  refine wkP.callS 5 (M_ckl l Z a0 g _ m (by omega)) [(.int (0 : Int32)), (.int (Int32.ofNat m))] [] 0 g.2.1 (w134 g.1) (w135 g.1) (w129 g.1) (w136 g.1) (by decide) dcrb_2 (lenOf pd11 rfl) rfl rfl rfl (by simp) (Nat.le_of_eq rfl) (by decide) (by decide) (by decide) (by decide) rfl ?_
  rintro v182 _ o182 ⟨rfl, rfl, rfl⟩ K182
  refine wkP.iloadN 6 dcrb_5 rfl rfl ?_
  refine wkP.iloadN 7 dcrb_6 rfl rfl ?_
  refine wkP.isub 8 (Int32.ofNat m) dcrb_7 (by simp) rfl ?_
  refine wkP.istoreN 9 #[.val (.ref b), .val (.int (0 : Int32)), .val (.int (Int32.ofNat m)), .val (.int (Int32.ofNat m)), .unset] dcrb_8 rfl rfl ?_
  refine wkP.iloadN 10 dcrb_9 rfl rfl ?_
  refine wkP.newP 12 .byte m 32 (w16 g.1) rfl rfl rfl dcrb_10 (toI (by omega)) (by omega) (by decide) (by decide) (by decide) rfl ?_
  intro h183 a183 g183 l183 K183 A183
  have z183 := K183.1
  refine wkP.astore 14 #[.val (.ref b), .val (.int (0 : Int32)), .val (.int (Int32.ofNat m)), .val (.int (Int32.ofNat m)), .val (.ref a183)] dcrb_12 rfl rfl rfl ?_
  refine wkP.aloadN 15 dcrb_14 rfl rfl rfl ?_
  refine wkP.iloadN 16 dcrb_15 rfl rfl ?_
  refine wkP.aload 18 dcrb_16 rfl rfl rfl ?_
  refine wkP.iconst 19 (0 : Int32) dcrb_18 rfl rfl ?_
  refine wkP.aloadN 20 dcrb_19 rfl rfl rfl ?_
  have F_184 := (F.keep K183 nn0)
  refine wkP.alen 21 (Int32.ofNat ys.length) F_184 dcrb_20 rfl rfl ?_
  refine wkP.iloadN 22 dcrb_21 rfl rfl ?_
  refine wkP.isub 23 (Int32.ofNat ys.length) dcrb_22 (by simp) rfl ?_
  refine wkP.iloadN 24 dcrb_23 rfl rfl ?_
  refine wkP.callS 27 (M_min l Z a0 g _ ys.length m hm hL) [(.int (Int32.ofNat ys.length)), (.int (Int32.ofNat m))] [(.int (0 : Int32)), (.ref a183), (.int (0 : Int32)), (.ref b)] 4 g.2.1 (w137 g.1) (w138 g.1) (w139 g.1) (w140 g.1) (by decide) dcrb_24 (lenOf pd26 rfl) rfl rfl rfl (by simp) (Nat.le_of_eq rfl) (by decide) (by decide) (by decide) (by decide) rfl ?_
  rintro v185 _ o185 ⟨rfl, rfl, rfl⟩ K185
  refine wkP.copy 30 0 0 m 0 F_184 A183 (w141 g.1) (w95 g.1) (w93 g.1) (w94 g.1) dcrb_27 rfl rfl (toI (by omega)) (by omega) (by simp) (by simp) rfl (by decide) (Nat.le_of_eq rfl) (by decide) rfl ?_
  intro h186 K186 A186
  have z186 := K186.1
  refine wkP.aload 32 dcrb_30 rfl rfl rfl ?_
  have e : (List.replicate m (0 : Int32)).take 0 ++ (ys.drop 0).take m ++ (List.replicate m (0 : Int32)).drop (0 + m) = ys.take m := by simp
  rw [e] at A186
  exact wkP.retA (.array .byte) [a183] g.2.1 dcrb_32 rfl rfl (by decide) (by decide) (by simp) ⟨a183, rfl, by omega, rfl, A186⟩
abbrev rcor : Room := { frames := 2, cells := 1, slots := 32, locals := 46 }
set_option maxRecDepth 65536 in
set_option maxHeartbeats 4000000 in
theorem M_cor (l : Launch) (Z : State) (a0 : Array Value) (g : G Z a0) (h : Heap) (b : Addr) (ys : List Int32) (m : Nat) (F : Ia Z h b .byte ys) (hm : m ≤ ys.length) (hc : m ≤ 32) (X : m = ys.length → Exa Z h b "[B") : wkM l Z bcor rcor #[.ref b, .int 0, .int (Int32.ofNat m)] h [] (fun v h' os => ∃ d, v = some (.ref d) ∧ h.size ≤ d ∧ os = [d] ∧ Ia Z h' d .byte (ys.take m)) := by
  refine wkM.of #[.val (.ref b), .val (.int (0 : Int32)), .val (.int (Int32.ofNat m))] (plainFor_of_name (by first | (simp [plainName, overriddenIn]; done) | decide +kernel)) (fun m => by first | rfl | (simp [entryFrame, mkF, argsToLocals, Value.category]; done)) ?_
  have hL := F.len
  refine wkP.iloadN 1 dcor_0 rfl rfl ?_
  refine wkP.ifF 4 dcor_1 (show ¬ (¬ (0 : Int32) = (0 : Int32)) from (by decide)) rfl ?_
  refine wkP.iloadN 5 dcor_4 rfl rfl ?_
  refine wkP.aloadN 6 dcor_5 rfl rfl rfl ?_
  refine wkP.alen 7 (Int32.ofNat ys.length) F dcor_6 rfl rfl ?_
  by_cases hq : m = ys.length
  · refine wkP.icmpT 17 dcor_7 (show (Int32.ofNat m) = (Int32.ofNat ys.length) from (by rw [hq])) (by decide) (by decide) ?_
    refine wkP.aloadN 18 dcor_17 rfl rfl rfl ?_
    refine wkP.cloneB 21 32 0 F (X hq) (w234 g.1) (w235 g.1) (w239 g.1) (w237 g.1) (w238 g.1) (w240 g.1) dcor_18 rfl (by omega) (by decide) (Nat.le_of_eq rfl) (by decide) (by decide) (by decide) rfl ?_
    intro h187 a187 g187 l187 K187 A187 X187
    have z187 := K187.1
    refine wkP.castY 24 (w241 g.1) (Ins.self X187) dcor_21 rfl ?_
    have e : ys.take m = ys := List.take_of_length_le (by omega)
    exact wkP.retA (.array .byte) [a187] g.2.1 dcor_24 rfl rfl (by decide) (by decide) (by simp) ⟨a187, rfl, g187, rfl, e.symm ▸ A187⟩
  · refine wkP.icmpF 10 dcor_7 (show ¬ ((Int32.ofNat m) = (Int32.ofNat ys.length)) from (fun q => hq ((ofNat_inj (by omega) hL).mp q))) rfl ?_
    refine wkP.aloadN 11 dcor_10 rfl rfl rfl ?_
    refine wkP.iloadN 12 dcor_11 rfl rfl ?_
    refine wkP.iloadN 13 dcor_12 rfl rfl ?_
    refine wkP.callS 16 (M_crb l Z a0 g _ b ys m F hm hc) [(.ref b), (.int (0 : Int32)), (.int (Int32.ofNat m))] [] 0 g.2.1 (w131 g.1) (w132 g.1) (w129 g.1) (w133 g.1) (by decide) dcor_13 (lenOf pd27 rfl) rfl rfl rfl (by simp) (Nat.le_of_eq rfl) (by decide) (by decide) (by decide) (by decide) rfl ?_
    rintro v188 h188 o188 ⟨d, rfl, gd, rfl, A⟩ K188
    have z188 := K188.1
    exact wkP.retA (.array .byte) [d] g.2.1 dcor_16 rfl rfl (by decide) (by decide) (by simp) ⟨d, rfl, gd, rfl, A⟩
abbrev rgv : Room := { frames := 0, cells := 0, slots := 0, locals := 0 }
set_option maxRecDepth 65536 in
set_option maxHeartbeats 4000000 in
theorem M_gv (l : Launch) (Z : State) (a0 : Array Value) (g : G Z a0) (h : Heap) (a x : Addr) (co : Int32) (m : Nat) (ys : List Int32) (F : Sb Z h a x co m ys) : wkM l Z bgv rgv #[.ref a] h [] (fun v h' os => v = some (.ref x) ∧ os = [] ∧ h = h') := by
  refine wkM.of #[.val (.ref a)] (plainFor_of_name (by first | (simp [plainName, overriddenIn]; done) | decide +kernel)) (fun m => by first | rfl | (simp [entryFrame, mkF, argsToLocals, Value.category]; done)) ?_
  refine wkP.aloadN 1 dgv_0 rfl rfl rfl ?_
  refine wkP.getF 4 (w44 g.1) F.2.1 Via.refl dgv_1 rfl ?_
  exact wkP.retA (.array .byte) [] g.2.1 dgv_4 rfl rfl (by decide) (by decide) (by simp) ⟨rfl, rfl, rfl⟩
abbrev ral : Room := { frames := 0, cells := 0, slots := 0, locals := 0 }
set_option maxRecDepth 65536 in
set_option maxHeartbeats 4000000 in
theorem M_al (l : Launch) (Z : State) (a0 : Array Value) (g : G Z a0) (h : Heap) (a x : Addr) (co : Int32) (m : Nat) (ys : List Int32) (F : Sb Z h a x co m ys) : wkM l Z bal ral #[.ref a] h [] (fun v h' os => v = some (.int (Int32.ofNat m)) ∧ os = [] ∧ h = h') := by
  refine wkM.of #[.val (.ref a)] (plainFor_of_name (by first | (simp [plainName, overriddenIn]; done) | decide +kernel)) (fun m => by first | rfl | (simp [entryFrame, mkF, argsToLocals, Value.category]; done)) ?_
  refine wkP.aloadN 1 dal_0 rfl rfl rfl ?_
  refine wkP.getF 4 (w69 g.1) F.2.2.2.1 Via.refl dal_1 rfl ?_
  exact wkP.retI .int [] g.2.1 dal_4 rfl (by simp) rfl (by decide) (by decide) (by simp) ⟨rfl, rfl, rfl⟩
abbrev rbl : Room := { frames := 1, cells := 0, slots := 0, locals := 12 }
set_option maxRecDepth 65536 in
set_option maxHeartbeats 4000000 in
theorem M_bl (l : Launch) (Z : State) (a0 : Array Value) (g : G Z a0) (h : Heap) (a x : Addr) (co : Int32) (m : Nat) (ys : List Int32) (F : Sb Z h a x co m ys) : wkM l Z bbl rbl #[.ref a] h [] (fun v h' os => v = some (.int (Int32.ofNat m)) ∧ os = [] ∧ h = h') := by
  refine wkM.of #[.val (.ref a)] (plainFor_of_name (by first | (simp [plainName, overriddenIn]; done) | decide +kernel)) (fun m => by first | rfl | (simp [entryFrame, mkF, argsToLocals, Value.category]; done)) ?_
  refine wkP.aloadN 1 dbl_0 rfl rfl rfl ?_
  refine wkP.callU 4 (M_al l Z a0 g _ a x co m ys F) [] [] 0 g.2.1 (Ins.self F.1) (w120 g.1) (wkSame (by decide) (w74 g.1) rfl (w116 g.1)) (w116 g.1) (w55 g.1) (by decide) (w40 g.1) (w121 g.1) dbl_1 (lenOf pd22 rfl) rfl rfl rfl (by simp) (Nat.le_of_eq rfl) (by decide) (by decide) (by decide) (by decide) rfl ?_
  rintro v189 _ o189 ⟨rfl, rfl, rfl⟩ K189
  exact wkP.retI .int [] g.2.1 dbl_4 rfl (by simp) rfl (by decide) (by decide) (by simp) ⟨rfl, rfl, rfl⟩
abbrev risb : Room := { frames := 3, cells := 1, slots := 32, locals := 61 }
set_option maxRecDepth 65536 in
set_option maxHeartbeats 4000000 in
theorem M_isbL (l : Launch) (Z : State) (a0 : Array Value) (g : G Z a0) (h : Heap) (s a x : Addr) (cs : List Int32) (F0 : SbL Z h a x cs) (vc vv : Value) (E : Exa Z h s "java/lang/String") (FC : Fld Z h s "java/lang/String" "coder" "B" vc) (FV : Fld Z h s "java/lang/String" "value" "[B" vv) : wkM l Z bisb risb #[.ref s, .ref a, .null] h [s] (fun v h' os => ∃ d, v = none ∧ os = [] ∧ SL Z h' s d cs) := by
  refine wkM.of #[.val (.ref s), .val (.ref a), .val .null, .unset, .unset] (plainFor_of_name (by first | (simp [plainName, overriddenIn]; done) | decide +kernel)) (fun m => by first | rfl | (simp [entryFrame, mkF, argsToLocals, Value.category]; done)) ?_
  obtain ⟨ys, F, hy, hl, ht, hla, X⟩ := F0
  obtain ⟨zc, hzc, hzn⟩ := g.2.2.1
  have ls := exaLt E
  have lx := F.ltv
  have hxs : @Ne Nat x s := Ne.symm (exaNeIa E (w2 g.1) F.2.2.2.2.2)
  refine wkP.aloadN 1 disb_0 rfl rfl rfl ?_
  refine wkP.initO 4 (w12 g.1) (w13 g.1) (w14 g.1) disb_1 rfl (by decide) 0 (Nat.le_of_eq rfl) (by decide) rfl ?_
  refine wkP.aloadN 5 disb_4 rfl rfl rfl ?_
  refine wkP.callV 8 (M_gv l Z a0 g _ a x 0 cs.length ys F) [] [] 0 g.2.1 F.1 (wkNFs (w112 g.1)) (w109 g.1) (w110 g.1) (w112 g.1) (w111 g.1) (w40 g.1) (w113 g.1) (by decide) disb_5 (lenOf pd28 rfl) rfl rfl rfl (by simp) (Nat.le_of_eq rfl) (by decide) (by decide) (by decide) (by decide) rfl ?_
  rintro v190 _ o190 ⟨rfl, rfl, rfl⟩ K190
  refine wkP.astoreN 9 #[.val (.ref s), .val (.ref a), .val .null, .val (.ref x), .unset] disb_8 rfl rfl rfl ?_
  refine wkP.aloadN 10 disb_9 rfl rfl rfl ?_
  refine wkP.callV 13 (M_bl l Z a0 g _ a x 0 cs.length ys F) [] [] 0 g.2.1 F.1 (wkNFo (y := ({ cls := "java/lang/AbstractStringBuilder", name := "length", desc := "()I" } : Jvm.MethodName)) (w74 g.1) rfl) (w114 g.1) (w115 g.1) (w117 g.1) (w118 g.1) (w32 g.1) (w119 g.1) (by decide) disb_10 (lenOf pd22 rfl) rfl rfl rfl (by simp) (Nat.le_of_eq rfl) (by decide) (by decide) (by decide) (by decide) rfl ?_
  rintro v191 _ o191 ⟨rfl, rfl, rfl⟩ K191
  refine wkP.istore 15 #[.val (.ref s), .val (.ref a), .val .null, .val (.ref x), .val (.int (Int32.ofNat cs.length))] disb_13 rfl rfl ?_
  refine wkP.aloadN 16 disb_15 rfl rfl rfl ?_
  refine wkP.callV 19 (M_sbL0 l Z a0 g _ a x cs.length ys F) [] [] 0 g.2.1 F.1 (wkNFs (w125 g.1)) (w122 g.1) (w123 g.1) (w125 g.1) (w124 g.1) (w40 g.1) (w126 g.1) (by decide) disb_16 (lenOf pd13 rfl) rfl rfl rfl (by simp) (Nat.le_of_eq rfl) (by decide) (by decide) (by decide) (by decide) rfl ?_
  rintro v192 _ o192 ⟨rfl, rfl, rfl⟩ K192
  refine wkP.ifF 22 disb_19 (show ¬ ((1 : Int32) = (0 : Int32)) from (by decide)) rfl ?_
  refine wkP.aloadN 23 disb_22 rfl rfl rfl ?_
  refine wkP.iconst 24 (0 : Int32) disb_23 rfl rfl ?_
  refine wkP.putF 27 (w22 g.1) FC E (Or.inr ⟨(w18 g.1), rfl, rfl⟩) (w2 g.1) (ty := .byte) (by decide) rfl rfl disb_24 (by simp) rfl ?_
  intro h193 K193 W193
  have z193 := K193.1
  have F193 := Fld.same W193 FC
  have E193 := Exa.wr W193 E
  have F194 := Fld.other W193 FV (Or.inr (slot_ne (t := (.array .byte)) (t' := .byte) (Or.inr (w17 g.1)) (Or.inr (w18 g.1)) (by decide) (by decide) (by decide)))
  refine wkP.aloadN 28 disb_27 rfl rfl rfl ?_
  refine wkP.aloadN 29 disb_28 rfl rfl rfl ?_
  refine wkP.iconst 30 (0 : Int32) disb_29 rfl rfl ?_
  refine wkP.iload 32 disb_30 rfl rfl ?_
  have Fq2q2q2q2q2_195 := (F.2.2.2.2.2.keep K193 (nnS hxs nn0))
  have X_196 := (X.keep K193)
  refine wkP.callS 35 (M_cor l Z a0 g _ x ys cs.length Fq2q2q2q2q2_195 (by omega) (by omega) (fun _ => X_196)) [(.ref x), (.int (0 : Int32)), (.int (Int32.ofNat cs.length))] [(.ref s)] 1 g.2.1 (w127 g.1) (w128 g.1) (w129 g.1) (w130 g.1) (by decide) disb_32 (lenOf pd27 rfl) rfl rfl rfl (by simp) (Nat.le_of_eq rfl) (by decide) (by decide) (by decide) (by decide) rfl ?_
  rintro v197 h197 o197 ⟨d, rfl, gd, rfl, A197⟩ K197
  have z197 := K197.1
  rw [ht] at A197
  have ld := A197.lt
  have F194_198 := (F194.keep K197 nn0)
  have E193_199 := (E193.keep K197)
  have F193_200 := (F193.keep K197 nn0)
  refine wkP.putF 38 (w21 g.1) F194_198 E193_199 (Or.inr ⟨(w17 g.1), rfl, rfl⟩) (w2 g.1) (ty := (.array .byte)) (by decide) rfl rfl disb_35 (by simp) rfl ?_
  intro h201 K201 W201
  have z201 := K201.1
  have F201 := Fld.same W201 F194_198
  have E201 := Exa.wr W201 E193_199
  have F202 := Fld.other W201 F193_200 (Or.inr (slot_ne (t := .byte) (t' := (.array .byte)) (Or.inr (w18 g.1)) (Or.inr (w17 g.1)) (by decide) (by decide) (by decide)))
  refine wkP.goto 97 disb_38 (by decide) (by decide) ?_
  have A197_203 := (A197.keep K201 (nnS (by omega) nn0))
  exact wkP.ret0 [] g.2.1 disb_97 rfl (by decide) (by decide) (by simp) ⟨d, rfl, rfl, E201, F202, F201, A197_203, hla⟩
set_option maxRecDepth 65536 in
set_option maxHeartbeats 4000000 in
theorem M_isbU (l : Launch) (Z : State) (a0 : Array Value) (g : G Z a0) (h : Heap) (s a x : Addr) (cs : List Int32) (F0 : SbU Z h a x cs) (hnl : ¬ lat cs) (hlt : cs.length < 16) (vc vv : Value) (E : Exa Z h s "java/lang/String") (FC : Fld Z h s "java/lang/String" "coder" "B" vc) (FV : Fld Z h s "java/lang/String" "value" "[B" vv) : wkM l Z bisb risb #[.ref s, .ref a, .null] h [s] (fun v h' os => ∃ d, v = none ∧ os = [] ∧ SU Z h' s d cs) := by
  refine wkM.of #[.val (.ref s), .val (.ref a), .val .null, .unset, .unset] (plainFor_of_name (by first | (simp [plainName, overriddenIn]; done) | decide +kernel)) (fun m => by first | rfl | (simp [entryFrame, mkF, argsToLocals, Value.category]; done)) ?_
  obtain ⟨ys, F, hy, hl, ht, hch⟩ := F0
  obtain ⟨zc, hzc, hzn⟩ := g.2.2.1
  have ls := exaLt E
  have lx := F.ltv
  have hxs : @Ne Nat x s := Ne.symm (exaNeIa E (w2 g.1) F.2.2.2.2.2)
  refine wkP.aloadN 1 disb_0 rfl rfl rfl ?_
  refine wkP.initO 4 (w12 g.1) (w13 g.1) (w14 g.1) disb_1 rfl (by decide) 0 (Nat.le_of_eq rfl) (by decide) rfl ?_
  refine wkP.aloadN 5 disb_4 rfl rfl rfl ?_
  refine wkP.callV 8 (M_gv l Z a0 g _ a x 1 cs.length ys F) [] [] 0 g.2.1 F.1 (wkNFs (w112 g.1)) (w109 g.1) (w110 g.1) (w112 g.1) (w111 g.1) (w40 g.1) (w113 g.1) (by decide) disb_5 (lenOf pd28 rfl) rfl rfl rfl (by simp) (Nat.le_of_eq rfl) (by decide) (by decide) (by decide) (by decide) rfl ?_
  rintro v204 _ o204 ⟨rfl, rfl, rfl⟩ K204
  refine wkP.astoreN 9 #[.val (.ref s), .val (.ref a), .val .null, .val (.ref x), .unset] disb_8 rfl rfl rfl ?_
  refine wkP.aloadN 10 disb_9 rfl rfl rfl ?_
  refine wkP.callV 13 (M_bl l Z a0 g _ a x 1 cs.length ys F) [] [] 0 g.2.1 F.1 (wkNFo (y := ({ cls := "java/lang/AbstractStringBuilder", name := "length", desc := "()I" } : Jvm.MethodName)) (w74 g.1) rfl) (w114 g.1) (w115 g.1) (w117 g.1) (w118 g.1) (w32 g.1) (w119 g.1) (by decide) disb_10 (lenOf pd22 rfl) rfl rfl rfl (by simp) (Nat.le_of_eq rfl) (by decide) (by decide) (by decide) (by decide) rfl ?_
  rintro v205 _ o205 ⟨rfl, rfl, rfl⟩ K205
  refine wkP.istore 15 #[.val (.ref s), .val (.ref a), .val .null, .val (.ref x), .val (.int (Int32.ofNat cs.length))] disb_13 rfl rfl ?_
  refine wkP.aloadN 16 disb_15 rfl rfl rfl ?_
  refine wkP.callV 19 (M_sbL1 l Z a0 g _ a x cs.length ys F) [] [] 0 g.2.1 F.1 (wkNFs (w125 g.1)) (w122 g.1) (w123 g.1) (w125 g.1) (w124 g.1) (w40 g.1) (w126 g.1) (by decide) disb_16 (lenOf pd13 rfl) rfl rfl rfl (by simp) (Nat.le_of_eq rfl) (by decide) (by decide) (by decide) (by decide) rfl ?_
  rintro v206 _ o206 ⟨rfl, rfl, rfl⟩ K206
  refine wkP.ifT 41 disb_19 (show (0 : Int32) = (0 : Int32) from (by decide)) (by decide) (by decide) ?_
  refine wkP.getS 44 (w68 g.1) hzc Via.refl disb_41 rfl ?_
  refine wkP.ifF 47 disb_44 (show ¬ (zc = (0 : Int32)) from hzn) rfl ?_
  refine wkP.aloadN 48 disb_47 rfl rfl rfl ?_
  refine wkP.getF 51 (w297 g.1) F.2.2.2.2.1 Via.refl disb_48 rfl ?_
  refine wkP.ifT 79 disb_51 (show (0 : Int32) = (0 : Int32) from (by decide)) (by decide) (by decide) ?_
  refine wkP.aloadN 80 disb_79 rfl rfl rfl ?_
  refine wkP.iconst 81 (1 : Int32) disb_80 rfl rfl ?_
  refine wkP.putF 84 (w22 g.1) FC E (Or.inr ⟨(w18 g.1), rfl, rfl⟩) (w2 g.1) (ty := .byte) (by decide) rfl rfl disb_81 (by simp) rfl ?_
  intro h207 K207 W207
  have z207 := K207.1
  have F207 := Fld.same W207 FC
  have E207 := Exa.wr W207 E
  have F208 := Fld.other W207 FV (Or.inr (slot_ne (t := (.array .byte)) (t' := .byte) (Or.inr (w17 g.1)) (Or.inr (w18 g.1)) (by decide) (by decide) (by decide)))
  refine wkP.aloadN 85 disb_84 rfl rfl rfl ?_
  refine wkP.aloadN 86 disb_85 rfl rfl rfl ?_
  refine wkP.iconst 87 (0 : Int32) disb_86 rfl rfl ?_
  refine wkP.iload 89 disb_87 rfl rfl ?_
  refine wkP.iconst 90 (1 : Int32) disb_89 rfl rfl ?_
  refine wkP.ishl 91 (Int32.ofNat (2 * cs.length)) disb_90 (shl1 (by omega)) rfl ?_
  have Fq2q2q2q2q2_209 := (F.2.2.2.2.2.keep K207 (nnS hxs nn0))
  refine wkP.callS 94 (M_cor l Z a0 g _ x ys (2 * cs.length) Fq2q2q2q2q2_209 (by omega) (by omega) (fun q => absurd q (by omega))) [(.ref x), (.int (0 : Int32)), (.int (Int32.ofNat (2 * cs.length)))] [(.ref s)] 1 g.2.1 (w127 g.1) (w128 g.1) (w129 g.1) (w130 g.1) (by decide) disb_91 (lenOf pd27 rfl) rfl rfl rfl (by simp) (Nat.le_of_eq rfl) (by decide) (by decide) (by decide) (by decide) rfl ?_
  rintro v210 h210 o210 ⟨d, rfl, gd, rfl, A210⟩ K210
  have z210 := K210.1
  rw [ht] at A210
  have ld := A210.lt
  have F208_211 := (F208.keep K210 nn0)
  have E207_212 := (E207.keep K210)
  have F207_213 := (F207.keep K210 nn0)
  refine wkP.putF 97 (w21 g.1) F208_211 E207_212 (Or.inr ⟨(w17 g.1), rfl, rfl⟩) (w2 g.1) (ty := (.array .byte)) (by decide) rfl rfl disb_94 (by simp) rfl ?_
  intro h214 K214 W214
  have z214 := K214.1
  have F214 := Fld.same W214 F208_211
  have E214 := Exa.wr W214 E207_212
  have F215 := Fld.other W214 F207_213 (Or.inr (slot_ne (t := .byte) (t' := (.array .byte)) (Or.inr (w18 g.1)) (Or.inr (w17 g.1)) (by decide) (by decide) (by decide)))
  have A210_216 := (A210.keep K214 (nnS (by omega) nn0))
  exact wkP.ret0 [] g.2.1 disb_97 rfl (by decide) (by decide) (by simp) ⟨d, rfl, rfl, E214, F215, F214, A210_216, hch, hnl⟩
abbrev risc : Room := { frames := 4, cells := 1, slots := 32, locals := 77 }
set_option maxRecDepth 65536 in
set_option maxHeartbeats 4000000 in
theorem M_iscL (l : Launch) (Z : State) (a0 : Array Value) (g : G Z a0) (h : Heap) (s a x : Addr) (cs : List Int32) (F0 : SbL Z h a x cs) (vc vv : Value) (E : Exa Z h s "java/lang/String") (FC : Fld Z h s "java/lang/String" "coder" "B" vc) (FV : Fld Z h s "java/lang/String" "value" "[B" vv) : wkM l Z bisc risc #[.ref s, .ref a] h [s] (fun v h' os => ∃ d, v = none ∧ os = [] ∧ SL Z h' s d cs) := by
  refine wkM.of #[.val (.ref s), .val (.ref a)] (plainFor_of_name (by first | (simp [plainName, overriddenIn]; done) | decide +kernel)) (fun m => by first | rfl | (simp [entryFrame, mkF, argsToLocals, Value.category]; done)) ?_
  refine wkP.aloadN 1 disc_0 rfl rfl rfl ?_
  refine wkP.aloadN 2 disc_1 rfl rfl rfl ?_
  refine wkP.anull 3 disc_2 rfl ?_
  refine wkP.callI 6 (M_isbL l Z a0 g _ s a x cs F0 vc vv E FC FV) [(.ref a), .null] [] 0 g.2.1 (w106 g.1) (w107 g.1) (w3 g.1) (w108 g.1) rfl rfl (by decide) disc_3 (lenOf pd29 rfl) rfl rfl rfl (by simp) (Nat.le_of_eq rfl) (by decide) (by decide) (by decide) (by decide) rfl ?_
  rintro v217 h217 o217 ⟨d, rfl, rfl, H⟩ K217
  have z217 := K217.1
  exact wkP.ret0 [] g.2.1 disc_6 rfl (by decide) (by decide) (by simp) ⟨d, rfl, rfl, H⟩
set_option maxRecDepth 65536 in
set_option maxHeartbeats 4000000 in
theorem M_iscU (l : Launch) (Z : State) (a0 : Array Value) (g : G Z a0) (h : Heap) (s a x : Addr) (cs : List Int32) (F0 : SbU Z h a x cs) (hnl : ¬ lat cs) (hlt : cs.length < 16) (vc vv : Value) (E : Exa Z h s "java/lang/String") (FC : Fld Z h s "java/lang/String" "coder" "B" vc) (FV : Fld Z h s "java/lang/String" "value" "[B" vv) : wkM l Z bisc risc #[.ref s, .ref a] h [s] (fun v h' os => ∃ d, v = none ∧ os = [] ∧ SU Z h' s d cs) := by
  refine wkM.of #[.val (.ref s), .val (.ref a)] (plainFor_of_name (by first | (simp [plainName, overriddenIn]; done) | decide +kernel)) (fun m => by first | rfl | (simp [entryFrame, mkF, argsToLocals, Value.category]; done)) ?_
  refine wkP.aloadN 1 disc_0 rfl rfl rfl ?_
  refine wkP.aloadN 2 disc_1 rfl rfl rfl ?_
  refine wkP.anull 3 disc_2 rfl ?_
  refine wkP.callI 6 (M_isbU l Z a0 g _ s a x cs F0 hnl hlt vc vv E FC FV) [(.ref a), .null] [] 0 g.2.1 (w106 g.1) (w107 g.1) (w3 g.1) (w108 g.1) rfl rfl (by decide) disc_3 (lenOf pd29 rfl) rfl rfl rfl (by simp) (Nat.le_of_eq rfl) (by decide) (by decide) (by decide) (by decide) rfl ?_
  rintro v218 h218 o218 ⟨d, rfl, rfl, H⟩ K218
  have z218 := K218.1
  exact wkP.ret0 [] g.2.1 disc_6 rfl (by decide) (by decide) (by simp) ⟨d, rfl, rfl, H⟩
abbrev rtos : Room := { frames := 5, cells := 2, slots := 36, locals := 91 }
set_option maxRecDepth 65536 in
set_option maxHeartbeats 4000000 in
theorem M_tosL (l : Launch) (Z : State) (a0 : Array Value) (g : G Z a0) (h : Heap) (a x : Addr) (cs : List Int32) (F0 : SbL Z h a x cs) : wkM l Z btos rtos #[.ref a] h [] (fun v h' os => ∃ s d, v = some (.ref s) ∧ os = [] ∧ SL Z h' s d cs) := by
  refine wkM.of #[.val (.ref a)] (plainFor_of_name (by first | (simp [plainName, overriddenIn]; done) | decide +kernel)) (fun m => by first | rfl | (simp [entryFrame, mkF, argsToLocals, Value.category]; done)) ?_
  have la : h.size > a := by obtain ⟨_, F, _⟩ := F0; exact F.lta
  have lx : h.size > x := by obtain ⟨_, F, _⟩ := F0; exact F.ltv
  refine wkP.newO 3 (w102 g.1) (w2 g.1) (w3 g.1) dtos_0 (by decide) (by decide) rfl ?_
  intro h219 a219 g219 l219 K219 E219 D219 U219
  have z219 := K219.1
  have F220 := D219 (Or.inr (w18 g.1)) (ty := .byte) (by decide)
  have F221 := D219 (Or.inr (w17 g.1)) (ty := (.array .byte)) (by decide)
  refine wkP.dup 4 dtos_3 rfl rfl ?_
  refine wkP.aloadN 5 dtos_4 rfl rfl rfl ?_
  have F0_222 := (F0.keep K219 nn0 nn0)
  refine wkP.callI 8 (M_iscL l Z a0 g _ a219 a x cs F0_222 _ _ E219 F220 F221) [(.ref a)] [(.ref a219)] 1 g.2.1 (w103 g.1) (w104 g.1) (w3 g.1) (w105 g.1) rfl rfl (by decide) dtos_5 (lenOf pd30 rfl) rfl rfl rfl (by simp) (Nat.le_of_eq rfl) (by decide) (by decide) (by decide) (by decide) rfl ?_
  rintro v223 h223 o223 ⟨d, rfl, rfl, H⟩ K223
  have z223 := K223.1
  exact wkP.retA (.object "java/lang/String") [] g.2.1 dtos_8 rfl rfl (by decide) (by decide) (by simp) ⟨a219, d, rfl, rfl, H⟩
set_option maxRecDepth 65536 in
set_option maxHeartbeats 4000000 in
theorem M_tosU (l : Launch) (Z : State) (a0 : Array Value) (g : G Z a0) (h : Heap) (a x : Addr) (cs : List Int32) (F0 : SbU Z h a x cs) (hnl : ¬ lat cs) (hlt : cs.length < 16) : wkM l Z btos rtos #[.ref a] h [] (fun v h' os => ∃ s d, v = some (.ref s) ∧ os = [] ∧ SU Z h' s d cs) := by
  refine wkM.of #[.val (.ref a)] (plainFor_of_name (by first | (simp [plainName, overriddenIn]; done) | decide +kernel)) (fun m => by first | rfl | (simp [entryFrame, mkF, argsToLocals, Value.category]; done)) ?_
  have la : h.size > a := by obtain ⟨_, F, _⟩ := F0; exact F.lta
  have lx : h.size > x := by obtain ⟨_, F, _⟩ := F0; exact F.ltv
  refine wkP.newO 3 (w102 g.1) (w2 g.1) (w3 g.1) dtos_0 (by decide) (by decide) rfl ?_
  intro h224 a224 g224 l224 K224 E224 D224 U224
  have z224 := K224.1
  have F225 := D224 (Or.inr (w18 g.1)) (ty := .byte) (by decide)
  have F226 := D224 (Or.inr (w17 g.1)) (ty := (.array .byte)) (by decide)
  refine wkP.dup 4 dtos_3 rfl rfl ?_
  refine wkP.aloadN 5 dtos_4 rfl rfl rfl ?_
  have F0_227 := (F0.keep K224 nn0 nn0)
  refine wkP.callI 8 (M_iscU l Z a0 g _ a224 a x cs F0_227 hnl hlt _ _ E224 F225 F226) [(.ref a)] [(.ref a224)] 1 g.2.1 (w103 g.1) (w104 g.1) (w3 g.1) (w105 g.1) rfl rfl (by decide) dtos_5 (lenOf pd30 rfl) rfl rfl rfl (by simp) (Nat.le_of_eq rfl) (by decide) (by decide) (by decide) (by decide) rfl ?_
  rintro v228 h228 o228 ⟨d, rfl, rfl, H⟩ K228
  have z228 := K228.1
  exact wkP.retA (.object "java/lang/String") [] g.2.1 dtos_8 rfl rfl (by decide) (by decide) (by simp) ⟨a224, d, rfl, rfl, H⟩
abbrev REQ : List Int32 := [32, 105, 115, 32, 114, 101, 113, 117, 105, 114, 101, 100]
set_option maxRecDepth 65536 in
theorem thIn : ∀ d ∈ thWords "com/example/sieve_for_sparql/sieveforsparql/InputException", d ∈ tables_1 := by decide +kernel
abbrev rthi : Room := { frames := 3, cells := 1, slots := 2752, locals := 42 }
set_option maxRecDepth 65536 in
set_option maxHeartbeats 4000000 in
theorem M_thi (l : Launch) (Z : State) (a0 : Array Value) (g : G Z a0) (h : Heap) (hst : l.stackTraces = true) (r2 : ∃ u sen : Value, u.isRef = true ∧ sen.isRef = true ∧ Sta Z Z.heap "java/lang/Throwable" "UNASSIGNED_STACK" "[Ljava/lang/StackTraceElement;" u ∧ Sta Z Z.heap "java/lang/Throwable" "SUPPRESSED_SENTINEL" "Ljava/util/List;" sen) (a m : Addr) (vC vS vP : Value) (E : Exa Z h a "com/example/sieve_for_sparql/sieveforsparql/InputException") (N : Unt h a) (FC : Fld Z h a "java/lang/Throwable" "cause" "Ljava/lang/Throwable;" vC) (FS : Fld Z h a "java/lang/Throwable" "stackTrace" "[Ljava/lang/StackTraceElement;" vS) (FP : Fld Z h a "java/lang/Throwable" "suppressedExceptions" "Ljava/util/List;" vP) (FB : Fld Z h a "java/lang/Throwable" "backtrace" "Ljava/lang/Object;" .null) (FM : Fld Z h a "java/lang/Throwable" "detailMessage" "Ljava/lang/String;" .null) : wkM l Z bthi rthi #[.ref a, .ref m] h [a] (fun v h' os => v = none ∧ os = [] ∧ Exa Z h' a "com/example/sieve_for_sparql/sieveforsparql/InputException" ∧ Fld Z h' a "java/lang/Throwable" "detailMessage" "Ljava/lang/String;" (.ref m)) := by
  obtain ⟨u, sen, hu, hsn, SU, SS⟩ := r2
  refine wkM.thI (rc := "com/example/sieve_for_sparql/sieveforsparql/InputException") (nn := 6) (by decide) hst rfl g.2.1 ⟨dthi_0, dthi_1, dthi_4, dthi_5, dthi_6, dthi_9, dthi_10, dthi_13, dthi_16, dthi_17, dthi_20, dthi_23, dthi_24⟩ (fun d hd => g.1 d (thIn d hd)) (w28 g.1) (plainFor_of_name (by first | (simp [plainName, overriddenIn]; done) | decide +kernel)) hu hsn SU SS E N FC FS FP FB FM (by decide) (by decide) (by decide) (by decide) ?_
  intro h1 K1 E1 F1
  refine wkP.pop 28 dthi_27 rfl rfl ?_
  refine wkP.aloadN 29 dthi_28 rfl rfl rfl ?_
  refine wkP.aloadN 30 dthi_29 rfl rfl rfl ?_
  refine wkP.putF 33 (w198 g.1) F1 E1 (Or.inl (w194 g.1)) (w28 g.1) (ty := (.object "java/lang/String")) (by decide) rfl rfl dthi_30 (by simp) rfl ?_
  intro h229 K229 W229
  have z229 := K229.1
  have F229 := Fld.same W229 F1
  have E229 := Exa.wr W229 E1
  exact wkP.ret0 [] g.2.1 dthi_33 rfl (by decide) (by decide) (by simp) ⟨rfl, rfl, E229, F229⟩
abbrev rexi : Room := { frames := 4, cells := 1, slots := 2752, locals := 55 }
set_option maxRecDepth 65536 in
set_option maxHeartbeats 4000000 in
theorem M_exi (l : Launch) (Z : State) (a0 : Array Value) (g : G Z a0) (h : Heap) (hst : l.stackTraces = true) (r2 : ∃ u sen : Value, u.isRef = true ∧ sen.isRef = true ∧ Sta Z Z.heap "java/lang/Throwable" "UNASSIGNED_STACK" "[Ljava/lang/StackTraceElement;" u ∧ Sta Z Z.heap "java/lang/Throwable" "SUPPRESSED_SENTINEL" "Ljava/util/List;" sen) (a m : Addr) (vC vS vP : Value) (E : Exa Z h a "com/example/sieve_for_sparql/sieveforsparql/InputException") (N : Unt h a) (FC : Fld Z h a "java/lang/Throwable" "cause" "Ljava/lang/Throwable;" vC) (FS : Fld Z h a "java/lang/Throwable" "stackTrace" "[Ljava/lang/StackTraceElement;" vS) (FP : Fld Z h a "java/lang/Throwable" "suppressedExceptions" "Ljava/util/List;" vP) (FB : Fld Z h a "java/lang/Throwable" "backtrace" "Ljava/lang/Object;" .null) (FM : Fld Z h a "java/lang/Throwable" "detailMessage" "Ljava/lang/String;" .null) : wkM l Z bexi rexi #[.ref a, .ref m] h [a] (fun v h' os => v = none ∧ os = [] ∧ Exa Z h' a "com/example/sieve_for_sparql/sieveforsparql/InputException" ∧ Fld Z h' a "java/lang/Throwable" "detailMessage" "Ljava/lang/String;" (.ref m)) := by
  refine wkM.of #[.val (.ref a), .val (.ref m)] (plainFor_of_name (by first | (simp [plainName, overriddenIn]; done) | decide +kernel)) (fun m => by first | rfl | (simp [entryFrame, mkF, argsToLocals, Value.category]; done)) ?_
  refine wkP.aloadN 1 dexi_0 rfl rfl rfl ?_
  refine wkP.aloadN 2 dexi_1 rfl rfl rfl ?_
  refine wkP.callI 5 (M_thi l Z a0 g _ hst r2 a m _ _ _ E N FC FS FP FB FM) [(.ref m)] [] 0 g.2.1 (w156 g.1) (w157 g.1) (w160 g.1) (w161 g.1) rfl rfl (by decide) dexi_2 (lenOf pd20 rfl) rfl rfl rfl (by simp) (Nat.le_of_eq rfl) (by decide) (by decide) (by decide) (by decide) rfl ?_
  rintro v230 h230 o230 ⟨rfl, rfl, E1, F1⟩ K230
  have z230 := K230.1
  exact wkP.ret0 [] g.2.1 dexi_5 rfl (by decide) (by decide) (by simp) ⟨rfl, rfl, E1, F1⟩
abbrev rrei : Room := { frames := 5, cells := 1, slots := 2752, locals := 68 }
set_option maxRecDepth 65536 in
set_option maxHeartbeats 4000000 in
theorem M_rei (l : Launch) (Z : State) (a0 : Array Value) (g : G Z a0) (h : Heap) (hst : l.stackTraces = true) (r2 : ∃ u sen : Value, u.isRef = true ∧ sen.isRef = true ∧ Sta Z Z.heap "java/lang/Throwable" "UNASSIGNED_STACK" "[Ljava/lang/StackTraceElement;" u ∧ Sta Z Z.heap "java/lang/Throwable" "SUPPRESSED_SENTINEL" "Ljava/util/List;" sen) (a m : Addr) (vC vS vP : Value) (E : Exa Z h a "com/example/sieve_for_sparql/sieveforsparql/InputException") (N : Unt h a) (FC : Fld Z h a "java/lang/Throwable" "cause" "Ljava/lang/Throwable;" vC) (FS : Fld Z h a "java/lang/Throwable" "stackTrace" "[Ljava/lang/StackTraceElement;" vS) (FP : Fld Z h a "java/lang/Throwable" "suppressedExceptions" "Ljava/util/List;" vP) (FB : Fld Z h a "java/lang/Throwable" "backtrace" "Ljava/lang/Object;" .null) (FM : Fld Z h a "java/lang/Throwable" "detailMessage" "Ljava/lang/String;" .null) : wkM l Z brei rrei #[.ref a, .ref m] h [a] (fun v h' os => v = none ∧ os = [] ∧ Exa Z h' a "com/example/sieve_for_sparql/sieveforsparql/InputException" ∧ Fld Z h' a "java/lang/Throwable" "detailMessage" "Ljava/lang/String;" (.ref m)) := by
  refine wkM.of #[.val (.ref a), .val (.ref m)] (plainFor_of_name (by first | (simp [plainName, overriddenIn]; done) | decide +kernel)) (fun m => by first | rfl | (simp [entryFrame, mkF, argsToLocals, Value.category]; done)) ?_
  refine wkP.aloadN 1 drei_0 rfl rfl rfl ?_
  refine wkP.aloadN 2 drei_1 rfl rfl rfl ?_
  refine wkP.callI 5 (M_exi l Z a0 g _ hst r2 a m _ _ _ E N FC FS FP FB FM) [(.ref m)] [] 0 g.2.1 (w150 g.1) (w151 g.1) (w154 g.1) (w155 g.1) rfl rfl (by decide) drei_2 (lenOf pd20 rfl) rfl rfl rfl (by simp) (Nat.le_of_eq rfl) (by decide) (by decide) (by decide) (by decide) rfl ?_
  rintro v231 h231 o231 ⟨rfl, rfl, E1, F1⟩ K231
  have z231 := K231.1
  exact wkP.ret0 [] g.2.1 drei_5 rfl (by decide) (by decide) (by simp) ⟨rfl, rfl, E1, F1⟩
abbrev riei : Room := { frames := 6, cells := 1, slots := 2752, locals := 81 }
set_option maxRecDepth 65536 in
set_option maxHeartbeats 4000000 in
theorem M_iei (l : Launch) (Z : State) (a0 : Array Value) (g : G Z a0) (h : Heap) (hst : l.stackTraces = true) (r2 : ∃ u sen : Value, u.isRef = true ∧ sen.isRef = true ∧ Sta Z Z.heap "java/lang/Throwable" "UNASSIGNED_STACK" "[Ljava/lang/StackTraceElement;" u ∧ Sta Z Z.heap "java/lang/Throwable" "SUPPRESSED_SENTINEL" "Ljava/util/List;" sen) (a m : Addr) (vC vS vP : Value) (E : Exa Z h a "com/example/sieve_for_sparql/sieveforsparql/InputException") (N : Unt h a) (FC : Fld Z h a "java/lang/Throwable" "cause" "Ljava/lang/Throwable;" vC) (FS : Fld Z h a "java/lang/Throwable" "stackTrace" "[Ljava/lang/StackTraceElement;" vS) (FP : Fld Z h a "java/lang/Throwable" "suppressedExceptions" "Ljava/util/List;" vP) (FB : Fld Z h a "java/lang/Throwable" "backtrace" "Ljava/lang/Object;" .null) (FM : Fld Z h a "java/lang/Throwable" "detailMessage" "Ljava/lang/String;" .null) : wkM l Z biei riei #[.ref a, .ref m] h [a] (fun v h' os => v = none ∧ os = [] ∧ Exa Z h' a "com/example/sieve_for_sparql/sieveforsparql/InputException" ∧ Fld Z h' a "java/lang/Throwable" "detailMessage" "Ljava/lang/String;" (.ref m)) := by
  refine wkM.of #[.val (.ref a), .val (.ref m)] (plainFor_of_name (by first | (simp [plainName, overriddenIn]; done) | decide +kernel)) (fun m => by first | rfl | (simp [entryFrame, mkF, argsToLocals, Value.category]; done)) ?_
  refine wkP.aloadN 1 diei_0 rfl rfl rfl ?_
  refine wkP.aloadN 2 diei_1 rfl rfl rfl ?_
  refine wkP.callI 5 (M_rei l Z a0 g _ hst r2 a m _ _ _ E N FC FS FP FB FM) [(.ref m)] [] 0 g.2.1 (w145 g.1) (w146 g.1) (w148 g.1) (w149 g.1) rfl rfl (by decide) diei_2 (lenOf pd20 rfl) rfl rfl rfl (by simp) (Nat.le_of_eq rfl) (by decide) (by decide) (by decide) (by decide) rfl ?_
  rintro v232 h232 o232 ⟨rfl, rfl, E1, F1⟩ K232
  have z232 := K232.1
  exact wkP.ret0 [] g.2.1 diei_5 rfl (by decide) (by decide) (by simp) ⟨rfl, rfl, E1, F1⟩
abbrev rgm : Room := { frames := 0, cells := 0, slots := 0, locals := 0 }
set_option maxRecDepth 65536 in
set_option maxHeartbeats 4000000 in
theorem M_gm (l : Launch) (Z : State) (a0 : Array Value) (g : G Z a0) (h : Heap) (a m : Addr) (F : Fld Z h a "java/lang/Throwable" "detailMessage" "Ljava/lang/String;" (.ref m)) : wkM l Z bgm rgm #[.ref a] h [] (fun v h' os => v = some (.ref m) ∧ os = [] ∧ h = h') := by
  refine wkM.of #[.val (.ref a)] (plainFor_of_name (by first | (simp [plainName, overriddenIn]; done) | decide +kernel)) (fun m => by first | rfl | (simp [entryFrame, mkF, argsToLocals, Value.category]; done)) ?_
  refine wkP.aloadN 1 dgm_0 rfl rfl rfl ?_
  refine wkP.getF 4 (w198 g.1) F Via.refl dgm_1 rfl ?_
  exact wkP.retA (.object "java/lang/String") [] g.2.1 dgm_4 rfl rfl (by decide) (by decide) (by simp) ⟨rfl, rfl, rfl⟩
abbrev rmis : Room := { frames := 10, cells := 10, slots := 2930, locals := 145 }
set_option maxRecDepth 65536 in
set_option maxHeartbeats 4000000 in
theorem M_misL (l : Launch) (Z : State) (a0 : Array Value) (g : G Z a0) (h : Heap) (hst : l.stackTraces = true) (r2 : ∃ u sen : Value, u.isRef = true ∧ sen.isRef = true ∧ Sta Z Z.heap "java/lang/Throwable" "UNASSIGNED_STACK" "[Ljava/lang/StackTraceElement;" u ∧ Sta Z Z.heap "java/lang/Throwable" "SUPPRESSED_SENTINEL" "Ljava/util/List;" sen) (s t : Addr) (cs : List Int32) (F : SL Z h s t cs) (hc : cs.length ≤ 3) : wkM l Z bmis rmis #[.ref s] h [] (fun v h' os => ∃ e m d, v = some (.ref e) ∧ os = [] ∧ Exa Z h' e "com/example/sieve_for_sparql/sieveforsparql/InputException" ∧ Fld Z h' e "java/lang/Throwable" "detailMessage" "Ljava/lang/String;" (.ref m) ∧ St Z h' m d (cs ++ REQ)) := by
  refine wkM.of #[.val (.ref s)] (plainFor_of_name (by first | (simp [plainName, overriddenIn]; done) | decide +kernel)) (fun m => by first | rfl | (simp [entryFrame, mkF, argsToLocals, Value.category]; done)) ?_
  have ls := exaLt F.1
  have lt := F.2.2.2.1.lt
  refine wkP.newO 3 (w27 g.1) (w28 g.1) (w29 g.1) dmis_0 (by decide) (by decide) rfl ?_
  intro h233 a233 g233 l233 K233 E233 D233 U233
  have z233 := K233.1
  have F234 := D233 (Or.inl (w164 g.1)) (ty := (.object "java/lang/Throwable")) (by decide)
  have F235 := D233 (Or.inl (w167 g.1)) (ty := (.array (.object "java/lang/StackTraceElement"))) (by decide)
  have F236 := D233 (Or.inl (w170 g.1)) (ty := (.object "java/util/List")) (by decide)
  have F237 := D233 (Or.inl (w195 g.1)) (ty := (.object "java/lang/Object")) (by decide)
  have F238 := D233 (Or.inl (w194 g.1)) (ty := (.object "java/lang/String")) (by decide)
  refine wkP.dup 4 dmis_3 rfl rfl ?_
  refine wkP.newO 7 (w30 g.1) (w31 g.1) (w32 g.1) dmis_4 (by decide) (by decide) rfl ?_
  intro h239 a239 g239 l239 K239 E239 D239 U239
  have z239 := K239.1
  have F240 := D239 (Or.inl (w45 g.1)) (ty := (.array .byte)) (by decide)
  have F241 := D239 (Or.inl (w47 g.1)) (ty := .byte) (by decide)
  have F242 := D239 (Or.inl (w70 g.1)) (ty := .int) (by decide)
  have F243 := D239 (Or.inl (w298 g.1)) (ty := .boolean) (by decide)
  refine wkP.dup 8 dmis_7 rfl rfl ?_
  refine wkP.callI 11 (M_sbI l Z a0 g _ a239 E239 _ _ F240 F241 F242 F243) [] [(.ref a239), (.ref a233), (.ref a233)] 3 g.2.1 (w33 g.1) (w34 g.1) (w32 g.1) (w35 g.1) rfl rfl (by decide) dmis_8 (lenOf pd19 rfl) rfl rfl rfl (by simp) (Nat.le_of_eq rfl) (by decide) (by decide) (by decide) (by decide) rfl ?_
  rintro v244 h244 o244 ⟨x, rfl, gx, rfl, H1⟩ K244
  have z244 := K244.1
  have lx : h244.size > x := by obtain ⟨_, F, _⟩ := H1; exact F.ltv
  refine wkP.aloadN 12 dmis_11 rfl rfl rfl ?_
  have F_245 := (((F.keep K233 nn0 nn0).keep K239 nn0 nn0).keep K244 (nnS (by omega) nn0) (nnS (by omega) nn0))
  have E239_246 := (E239.keep K244)
  refine wkP.callV 15 (M_bapLL l Z a0 g _ a239 x s t [] cs H1 F_245 (by simp; omega)) [(.ref s)] [(.ref a233), (.ref a233)] 2 g.2.1 E239_246 (wkNFs (w51 g.1)) (w48 g.1) (w49 g.1) (w51 g.1) (w50 g.1) (w32 g.1) (w52 g.1) (by decide) dmis_12 (lenOf pd31 rfl) rfl rfl rfl (by simp) (Nat.le_of_eq rfl) (by decide) (by decide) (by decide) (by decide) rfl ?_
  rintro v247 h247 o247 ⟨rfl, rfl, H2⟩ K247
  have z247 := K247.1
  replace H2 : SbL Z h247 a239 x cs := H2
  refine wkP.ldc 17 [(32 : Int32), (105 : Int32), (115 : Int32), (32 : Int32), (114 : Int32), (101 : Int32), (113 : Int32), (117 : Int32), (105 : Int32), (114 : Int32), (101 : Int32), (100 : Int32)] 48 (w96 g.1) (sAtoms g.1) g.2.1 (by decide) (by decide) rfl (by decide) dmis_15 (by decide) (by decide) (by decide) (by decide) rfl ?_
  intro h248 a248 b248 K248 E248 C248 V248 A248 ne248
  have z248 := K248.1
  have la248 := exaLt E248
  have lb248 := A248.lt
  have G : SL Z h248 a248 b248 REQ := ⟨E248, C248, V248, A248, by decide⟩
  have H2_249 := (H2.keep K248 nn0 nn0)
  have E239_250 := ((E239_246.keep K247).keep K248)
  refine wkP.callV 20 (M_bapLL l Z a0 g _ a239 x a248 b248 cs REQ H2_249 G (by simp; omega)) [(.ref a248)] [(.ref a233), (.ref a233)] 2 g.2.1 E239_250 (wkNFs (w51 g.1)) (w48 g.1) (w49 g.1) (w51 g.1) (w50 g.1) (w32 g.1) (w52 g.1) (by decide) dmis_17 (lenOf pd31 rfl) rfl rfl rfl (by simp) (Nat.le_of_eq rfl) (by decide) (by decide) (by decide) (by decide) rfl ?_
  rintro v251 h251 o251 ⟨rfl, rfl, H3⟩ K251
  have z251 := K251.1
  have E239_252 := (E239_250.keep K251)
  refine wkP.callV 23 (M_tosL l Z a0 g _ a239 x (cs ++ REQ) H3) [] [(.ref a233), (.ref a233)] 2 g.2.1 E239_252 (wkNFs (w100 g.1)) (w97 g.1) (w98 g.1) (w100 g.1) (w99 g.1) (w32 g.1) (w101 g.1) (by decide) dmis_20 (lenOf pd32 rfl) rfl rfl rfl (by simp) (Nat.le_of_eq rfl) (by decide) (by decide) (by decide) (by decide) rfl ?_
  rintro v253 h253 o253 ⟨m, d, rfl, rfl, H4⟩ K253
  have z253 := K253.1
  have lm := exaLt H4.1
  have ld := H4.2.2.2.1.lt
  have U233_254 := ((((((U233.keep K239 nn0).keep K244 (nnS (by omega) nn0)).keep K247 (nnS (by omega) (nnS (by omega) nn0))).keep K248 nn0).keep K251 (nnS (by omega) (nnS (by omega) nn0))).keep K253 nn0)
  have Ue := U233_254
  have E233_255 := ((((((E233.keep K239).keep K244).keep K247).keep K248).keep K251).keep K253)
  have F234_256 := ((((((F234.keep K239 nn0).keep K244 (nnS (by omega) nn0)).keep K247 (nnS (by omega) (nnS (by omega) nn0))).keep K248 nn0).keep K251 (nnS (by omega) (nnS (by omega) nn0))).keep K253 nn0)
  have F235_257 := ((((((F235.keep K239 nn0).keep K244 (nnS (by omega) nn0)).keep K247 (nnS (by omega) (nnS (by omega) nn0))).keep K248 nn0).keep K251 (nnS (by omega) (nnS (by omega) nn0))).keep K253 nn0)
  have F236_258 := ((((((F236.keep K239 nn0).keep K244 (nnS (by omega) nn0)).keep K247 (nnS (by omega) (nnS (by omega) nn0))).keep K248 nn0).keep K251 (nnS (by omega) (nnS (by omega) nn0))).keep K253 nn0)
  have F237_259 := ((((((F237.keep K239 nn0).keep K244 (nnS (by omega) nn0)).keep K247 (nnS (by omega) (nnS (by omega) nn0))).keep K248 nn0).keep K251 (nnS (by omega) (nnS (by omega) nn0))).keep K253 nn0)
  have F238_260 := ((((((F238.keep K239 nn0).keep K244 (nnS (by omega) nn0)).keep K247 (nnS (by omega) (nnS (by omega) nn0))).keep K248 nn0).keep K251 (nnS (by omega) (nnS (by omega) nn0))).keep K253 nn0)
  refine wkP.callI 26 (M_iei l Z a0 g _ hst r2 a233 m _ _ _ E233_255 Ue F234_256 F235_257 F236_258 F237_259 F238_260) [(.ref m)] [(.ref a233)] 1 g.2.1 (w142 g.1) (w143 g.1) (w29 g.1) (w144 g.1) rfl rfl (by decide) dmis_23 (lenOf pd20 rfl) rfl rfl rfl (by simp) (Nat.le_of_eq rfl) (by decide) (by decide) (by decide) (by decide) rfl ?_
  rintro v261 h261 o261 ⟨rfl, rfl, E261, F261⟩ K261
  have z261 := K261.1
  have M1 := (show St Z h253 m d (cs ++ REQ) from Or.inl H4)
  have hme : @Ne Nat m a233 := Exa.ne M1.exa E233_255 (by decide)
  have hde : @Ne Nat d a233 := Ne.symm (by rcases M1 with M1 | M1 <;> exact exaNeIa E233_255 (w28 g.1) M1.2.2.2.1)
  have M2 := M1.keep K261 (nn1 hme) (nn1 hde)
  exact wkP.retA (.object "com/example/sieve_for_sparql/sieveforsparql/InputException") [] g.2.1 dmis_26 rfl rfl (by decide) (by decide) (by simp) ⟨a233, m, d, rfl, rfl, E261, F261, M2⟩
set_option maxRecDepth 65536 in
set_option maxHeartbeats 4000000 in
theorem M_misU (l : Launch) (Z : State) (a0 : Array Value) (g : G Z a0) (h : Heap) (hst : l.stackTraces = true) (r2 : ∃ u sen : Value, u.isRef = true ∧ sen.isRef = true ∧ Sta Z Z.heap "java/lang/Throwable" "UNASSIGNED_STACK" "[Ljava/lang/StackTraceElement;" u ∧ Sta Z Z.heap "java/lang/Throwable" "SUPPRESSED_SENTINEL" "Ljava/util/List;" sen) (s t : Addr) (cs : List Int32) (F : SU Z h s t cs) (hc : cs.length ≤ 3) : wkM l Z bmis rmis #[.ref s] h [] (fun v h' os => ∃ e m d, v = some (.ref e) ∧ os = [] ∧ Exa Z h' e "com/example/sieve_for_sparql/sieveforsparql/InputException" ∧ Fld Z h' e "java/lang/Throwable" "detailMessage" "Ljava/lang/String;" (.ref m) ∧ St Z h' m d (cs ++ REQ)) := by
  refine wkM.of #[.val (.ref s)] (plainFor_of_name (by first | (simp [plainName, overriddenIn]; done) | decide +kernel)) (fun m => by first | rfl | (simp [entryFrame, mkF, argsToLocals, Value.category]; done)) ?_
  have ls := exaLt F.1
  have lt := F.2.2.2.1.lt
  refine wkP.newO 3 (w27 g.1) (w28 g.1) (w29 g.1) dmis_0 (by decide) (by decide) rfl ?_
  intro h262 a262 g262 l262 K262 E262 D262 U262
  have z262 := K262.1
  have F263 := D262 (Or.inl (w164 g.1)) (ty := (.object "java/lang/Throwable")) (by decide)
  have F264 := D262 (Or.inl (w167 g.1)) (ty := (.array (.object "java/lang/StackTraceElement"))) (by decide)
  have F265 := D262 (Or.inl (w170 g.1)) (ty := (.object "java/util/List")) (by decide)
  have F266 := D262 (Or.inl (w195 g.1)) (ty := (.object "java/lang/Object")) (by decide)
  have F267 := D262 (Or.inl (w194 g.1)) (ty := (.object "java/lang/String")) (by decide)
  refine wkP.dup 4 dmis_3 rfl rfl ?_
  refine wkP.newO 7 (w30 g.1) (w31 g.1) (w32 g.1) dmis_4 (by decide) (by decide) rfl ?_
  intro h268 a268 g268 l268 K268 E268 D268 U268
  have z268 := K268.1
  have F269 := D268 (Or.inl (w45 g.1)) (ty := (.array .byte)) (by decide)
  have F270 := D268 (Or.inl (w47 g.1)) (ty := .byte) (by decide)
  have F271 := D268 (Or.inl (w70 g.1)) (ty := .int) (by decide)
  have F272 := D268 (Or.inl (w298 g.1)) (ty := .boolean) (by decide)
  refine wkP.dup 8 dmis_7 rfl rfl ?_
  refine wkP.callI 11 (M_sbI l Z a0 g _ a268 E268 _ _ F269 F270 F271 F272) [] [(.ref a268), (.ref a262), (.ref a262)] 3 g.2.1 (w33 g.1) (w34 g.1) (w32 g.1) (w35 g.1) rfl rfl (by decide) dmis_8 (lenOf pd19 rfl) rfl rfl rfl (by simp) (Nat.le_of_eq rfl) (by decide) (by decide) (by decide) (by decide) rfl ?_
  rintro v273 h273 o273 ⟨x, rfl, gx, rfl, H1⟩ K273
  have z273 := K273.1
  have lx : h273.size > x := by obtain ⟨_, F, _⟩ := H1; exact F.ltv
  refine wkP.aloadN 12 dmis_11 rfl rfl rfl ?_
  have F_274 := (((F.keep K262 nn0 nn0).keep K268 nn0 nn0).keep K273 (nnS (by omega) nn0) (nnS (by omega) nn0))
  have E268_275 := (E268.keep K273)
  refine wkP.callV 15 (M_bapLU l Z a0 g _ a268 x s t cs H1 F_274 (by omega) (by omega) (by omega)) [(.ref s)] [(.ref a262), (.ref a262)] 2 g.2.1 E268_275 (wkNFs (w51 g.1)) (w48 g.1) (w49 g.1) (w51 g.1) (w50 g.1) (w32 g.1) (w52 g.1) (by decide) dmis_12 (lenOf pd31 rfl) rfl rfl rfl (by simp) (Nat.le_of_eq rfl) (by decide) (by decide) (by decide) (by decide) rfl ?_
  rintro v276 h276 o276 ⟨y, rfl, gy, rfl, H2⟩ K276
  have z276 := K276.1
  have ly : h276.size > y := by obtain ⟨_, F, _⟩ := H2; exact F.ltv
  refine wkP.ldc 17 [(32 : Int32), (105 : Int32), (115 : Int32), (32 : Int32), (114 : Int32), (101 : Int32), (113 : Int32), (117 : Int32), (105 : Int32), (114 : Int32), (101 : Int32), (100 : Int32)] 48 (w96 g.1) (sAtoms g.1) g.2.1 (by decide) (by decide) rfl (by decide) dmis_15 (by decide) (by decide) (by decide) (by decide) rfl ?_
  intro h277 a277 b277 K277 E277 C277 V277 A277 ne277
  have z277 := K277.1
  have la277 := exaLt E277
  have lb277 := A277.lt
  have G : SL Z h277 a277 b277 REQ := ⟨E277, C277, V277, A277, by decide⟩
  have H2_278 := (H2.keep K277 nn0 nn0)
  have E268_279 := ((E268_275.keep K276).keep K277)
  refine wkP.callV 20 (M_bapUL l Z a0 g _ a268 y a277 b277 cs REQ H2_278 G (by simp; omega) (Ne.symm (ne277 y (by simp)).2)) [(.ref a277)] [(.ref a262), (.ref a262)] 2 g.2.1 E268_279 (wkNFs (w51 g.1)) (w48 g.1) (w49 g.1) (w51 g.1) (w50 g.1) (w32 g.1) (w52 g.1) (by decide) dmis_17 (lenOf pd31 rfl) rfl rfl rfl (by simp) (Nat.le_of_eq rfl) (by decide) (by decide) (by decide) (by decide) rfl ?_
  rintro v280 h280 o280 ⟨rfl, rfl, H3⟩ K280
  have z280 := K280.1
  have hnl : ¬ lat (cs ++ REQ) := fun q => F.2.2.2.2.2 (fun c hc => q c (by simp [hc]))
  have E268_281 := (E268_279.keep K280)
  refine wkP.callV 23 (M_tosU l Z a0 g _ a268 y (cs ++ REQ) H3 hnl (by simp; omega)) [] [(.ref a262), (.ref a262)] 2 g.2.1 E268_281 (wkNFs (w100 g.1)) (w97 g.1) (w98 g.1) (w100 g.1) (w99 g.1) (w32 g.1) (w101 g.1) (by decide) dmis_20 (lenOf pd32 rfl) rfl rfl rfl (by simp) (Nat.le_of_eq rfl) (by decide) (by decide) (by decide) (by decide) rfl ?_
  rintro v282 h282 o282 ⟨m, d, rfl, rfl, H4⟩ K282
  have z282 := K282.1
  have lm := exaLt H4.1
  have ld := H4.2.2.2.1.lt
  have U262_283 := ((((((U262.keep K268 nn0).keep K273 (nnS (by omega) nn0)).keep K276 (nnS (by omega) nn0)).keep K277 nn0).keep K280 (nnS (by omega) (nnS (by omega) nn0))).keep K282 nn0)
  have Ue := U262_283
  have E262_284 := ((((((E262.keep K268).keep K273).keep K276).keep K277).keep K280).keep K282)
  have F263_285 := ((((((F263.keep K268 nn0).keep K273 (nnS (by omega) nn0)).keep K276 (nnS (by omega) nn0)).keep K277 nn0).keep K280 (nnS (by omega) (nnS (by omega) nn0))).keep K282 nn0)
  have F264_286 := ((((((F264.keep K268 nn0).keep K273 (nnS (by omega) nn0)).keep K276 (nnS (by omega) nn0)).keep K277 nn0).keep K280 (nnS (by omega) (nnS (by omega) nn0))).keep K282 nn0)
  have F265_287 := ((((((F265.keep K268 nn0).keep K273 (nnS (by omega) nn0)).keep K276 (nnS (by omega) nn0)).keep K277 nn0).keep K280 (nnS (by omega) (nnS (by omega) nn0))).keep K282 nn0)
  have F266_288 := ((((((F266.keep K268 nn0).keep K273 (nnS (by omega) nn0)).keep K276 (nnS (by omega) nn0)).keep K277 nn0).keep K280 (nnS (by omega) (nnS (by omega) nn0))).keep K282 nn0)
  have F267_289 := ((((((F267.keep K268 nn0).keep K273 (nnS (by omega) nn0)).keep K276 (nnS (by omega) nn0)).keep K277 nn0).keep K280 (nnS (by omega) (nnS (by omega) nn0))).keep K282 nn0)
  refine wkP.callI 26 (M_iei l Z a0 g _ hst r2 a262 m _ _ _ E262_284 Ue F263_285 F264_286 F265_287 F266_288 F267_289) [(.ref m)] [(.ref a262)] 1 g.2.1 (w142 g.1) (w143 g.1) (w29 g.1) (w144 g.1) rfl rfl (by decide) dmis_23 (lenOf pd20 rfl) rfl rfl rfl (by simp) (Nat.le_of_eq rfl) (by decide) (by decide) (by decide) (by decide) rfl ?_
  rintro v290 h290 o290 ⟨rfl, rfl, E290, F290⟩ K290
  have z290 := K290.1
  have M1 := (show St Z h282 m d (cs ++ REQ) from Or.inr H4)
  have hme : @Ne Nat m a262 := Exa.ne M1.exa E262_284 (by decide)
  have hde : @Ne Nat d a262 := Ne.symm (by rcases M1 with M1 | M1 <;> exact exaNeIa E262_284 (w28 g.1) M1.2.2.2.1)
  have M2 := M1.keep K290 (nn1 hme) (nn1 hde)
  exact wkP.retA (.object "com/example/sieve_for_sparql/sieveforsparql/InputException") [] g.2.1 dmis_26 rfl rfl (by decide) (by decide) (by simp) ⟨a262, m, d, rfl, rfl, E290, F290, M2⟩
set_option maxRecDepth 65536 in
set_option maxHeartbeats 4000000 in
theorem M_misN (l : Launch) (Z : State) (a0 : Array Value) (g : G Z a0) (h : Heap) (hst : l.stackTraces = true) (r2 : ∃ u sen : Value, u.isRef = true ∧ sen.isRef = true ∧ Sta Z Z.heap "java/lang/Throwable" "UNASSIGNED_STACK" "[Ljava/lang/StackTraceElement;" u ∧ Sta Z Z.heap "java/lang/Throwable" "SUPPRESSED_SENTINEL" "Ljava/util/List;" sen)  : wkM l Z bmis rmis #[.null] h [] (fun v h' os => ∃ e m d, v = some (.ref e) ∧ os = [] ∧ Exa Z h' e "com/example/sieve_for_sparql/sieveforsparql/InputException" ∧ Fld Z h' e "java/lang/Throwable" "detailMessage" "Ljava/lang/String;" (.ref m) ∧ St Z h' m d ([110, 117, 108, 108] ++ REQ)) := by
  refine wkM.of #[.val .null] (plainFor_of_name (by first | (simp [plainName, overriddenIn]; done) | decide +kernel)) (fun m => by first | rfl | (simp [entryFrame, mkF, argsToLocals, Value.category]; done)) ?_
  refine wkP.newO 3 (w27 g.1) (w28 g.1) (w29 g.1) dmis_0 (by decide) (by decide) rfl ?_
  intro h291 a291 g291 l291 K291 E291 D291 U291
  have z291 := K291.1
  have F292 := D291 (Or.inl (w164 g.1)) (ty := (.object "java/lang/Throwable")) (by decide)
  have F293 := D291 (Or.inl (w167 g.1)) (ty := (.array (.object "java/lang/StackTraceElement"))) (by decide)
  have F294 := D291 (Or.inl (w170 g.1)) (ty := (.object "java/util/List")) (by decide)
  have F295 := D291 (Or.inl (w195 g.1)) (ty := (.object "java/lang/Object")) (by decide)
  have F296 := D291 (Or.inl (w194 g.1)) (ty := (.object "java/lang/String")) (by decide)
  refine wkP.dup 4 dmis_3 rfl rfl ?_
  refine wkP.newO 7 (w30 g.1) (w31 g.1) (w32 g.1) dmis_4 (by decide) (by decide) rfl ?_
  intro h297 a297 g297 l297 K297 E297 D297 U297
  have z297 := K297.1
  have F298 := D297 (Or.inl (w45 g.1)) (ty := (.array .byte)) (by decide)
  have F299 := D297 (Or.inl (w47 g.1)) (ty := .byte) (by decide)
  have F300 := D297 (Or.inl (w70 g.1)) (ty := .int) (by decide)
  have F301 := D297 (Or.inl (w298 g.1)) (ty := .boolean) (by decide)
  refine wkP.dup 8 dmis_7 rfl rfl ?_
  refine wkP.callI 11 (M_sbI l Z a0 g _ a297 E297 _ _ F298 F299 F300 F301) [] [(.ref a297), (.ref a291), (.ref a291)] 3 g.2.1 (w33 g.1) (w34 g.1) (w32 g.1) (w35 g.1) rfl rfl (by decide) dmis_8 (lenOf pd19 rfl) rfl rfl rfl (by simp) (Nat.le_of_eq rfl) (by decide) (by decide) (by decide) (by decide) rfl ?_
  rintro v302 h302 o302 ⟨x, rfl, gx, rfl, H1⟩ K302
  have z302 := K302.1
  have lx : h302.size > x := by obtain ⟨_, F, _⟩ := H1; exact F.ltv
  refine wkP.aloadN 12 dmis_11 rfl rfl rfl ?_
  have E297_303 := (E297.keep K302)
  refine wkP.callV 15 (M_bapN l Z a0 g _ a297 x H1) [.null] [(.ref a291), (.ref a291)] 2 g.2.1 E297_303 (wkNFs (w51 g.1)) (w48 g.1) (w49 g.1) (w51 g.1) (w50 g.1) (w32 g.1) (w52 g.1) (by decide) dmis_12 (lenOf pd31 rfl) rfl rfl rfl (by simp) (Nat.le_of_eq rfl) (by decide) (by decide) (by decide) (by decide) rfl ?_
  rintro v304 h304 o304 ⟨rfl, rfl, H2⟩ K304
  have z304 := K304.1
  refine wkP.ldc 17 [(32 : Int32), (105 : Int32), (115 : Int32), (32 : Int32), (114 : Int32), (101 : Int32), (113 : Int32), (117 : Int32), (105 : Int32), (114 : Int32), (101 : Int32), (100 : Int32)] 48 (w96 g.1) (sAtoms g.1) g.2.1 (by decide) (by decide) rfl (by decide) dmis_15 (by decide) (by decide) (by decide) (by decide) rfl ?_
  intro h305 a305 b305 K305 E305 C305 V305 A305 ne305
  have z305 := K305.1
  have la305 := exaLt E305
  have lb305 := A305.lt
  have G : SL Z h305 a305 b305 REQ := ⟨E305, C305, V305, A305, by decide⟩
  have H2_306 := (H2.keep K305 nn0 nn0)
  have E297_307 := ((E297_303.keep K304).keep K305)
  refine wkP.callV 20 (M_bapLL l Z a0 g _ a297 x a305 b305 [110, 117, 108, 108] REQ H2_306 G (by simp)) [(.ref a305)] [(.ref a291), (.ref a291)] 2 g.2.1 E297_307 (wkNFs (w51 g.1)) (w48 g.1) (w49 g.1) (w51 g.1) (w50 g.1) (w32 g.1) (w52 g.1) (by decide) dmis_17 (lenOf pd31 rfl) rfl rfl rfl (by simp) (Nat.le_of_eq rfl) (by decide) (by decide) (by decide) (by decide) rfl ?_
  rintro v308 h308 o308 ⟨rfl, rfl, H3⟩ K308
  have z308 := K308.1
  have E297_309 := (E297_307.keep K308)
  refine wkP.callV 23 (M_tosL l Z a0 g _ a297 x ([110, 117, 108, 108] ++ REQ) H3) [] [(.ref a291), (.ref a291)] 2 g.2.1 E297_309 (wkNFs (w100 g.1)) (w97 g.1) (w98 g.1) (w100 g.1) (w99 g.1) (w32 g.1) (w101 g.1) (by decide) dmis_20 (lenOf pd32 rfl) rfl rfl rfl (by simp) (Nat.le_of_eq rfl) (by decide) (by decide) (by decide) (by decide) rfl ?_
  rintro v310 h310 o310 ⟨m, d, rfl, rfl, H4⟩ K310
  have z310 := K310.1
  have lm := exaLt H4.1
  have ld := H4.2.2.2.1.lt
  have U291_311 := ((((((U291.keep K297 nn0).keep K302 (nnS (by omega) nn0)).keep K304 (nnS (by omega) (nnS (by omega) nn0))).keep K305 nn0).keep K308 (nnS (by omega) (nnS (by omega) nn0))).keep K310 nn0)
  have Ue := U291_311
  have E291_312 := ((((((E291.keep K297).keep K302).keep K304).keep K305).keep K308).keep K310)
  have F292_313 := ((((((F292.keep K297 nn0).keep K302 (nnS (by omega) nn0)).keep K304 (nnS (by omega) (nnS (by omega) nn0))).keep K305 nn0).keep K308 (nnS (by omega) (nnS (by omega) nn0))).keep K310 nn0)
  have F293_314 := ((((((F293.keep K297 nn0).keep K302 (nnS (by omega) nn0)).keep K304 (nnS (by omega) (nnS (by omega) nn0))).keep K305 nn0).keep K308 (nnS (by omega) (nnS (by omega) nn0))).keep K310 nn0)
  have F294_315 := ((((((F294.keep K297 nn0).keep K302 (nnS (by omega) nn0)).keep K304 (nnS (by omega) (nnS (by omega) nn0))).keep K305 nn0).keep K308 (nnS (by omega) (nnS (by omega) nn0))).keep K310 nn0)
  have F295_316 := ((((((F295.keep K297 nn0).keep K302 (nnS (by omega) nn0)).keep K304 (nnS (by omega) (nnS (by omega) nn0))).keep K305 nn0).keep K308 (nnS (by omega) (nnS (by omega) nn0))).keep K310 nn0)
  have F296_317 := ((((((F296.keep K297 nn0).keep K302 (nnS (by omega) nn0)).keep K304 (nnS (by omega) (nnS (by omega) nn0))).keep K305 nn0).keep K308 (nnS (by omega) (nnS (by omega) nn0))).keep K310 nn0)
  refine wkP.callI 26 (M_iei l Z a0 g _ hst r2 a291 m _ _ _ E291_312 Ue F292_313 F293_314 F294_315 F295_316 F296_317) [(.ref m)] [(.ref a291)] 1 g.2.1 (w142 g.1) (w143 g.1) (w29 g.1) (w144 g.1) rfl rfl (by decide) dmis_23 (lenOf pd20 rfl) rfl rfl rfl (by simp) (Nat.le_of_eq rfl) (by decide) (by decide) (by decide) (by decide) rfl ?_
  rintro v318 h318 o318 ⟨rfl, rfl, E318, F318⟩ K318
  have z318 := K318.1
  have M1 := (show St Z h310 m d ([110, 117, 108, 108] ++ REQ) from Or.inl H4)
  have hme : @Ne Nat m a291 := Exa.ne M1.exa E291_312 (by decide)
  have hde : @Ne Nat d a291 := Ne.symm (by rcases M1 with M1 | M1 <;> exact exaNeIa E291_312 (w28 g.1) M1.2.2.2.1)
  have M2 := M1.keep K318 (nn1 hme) (nn1 hde)
  exact wkP.retA (.object "com/example/sieve_for_sparql/sieveforsparql/InputException") [] g.2.1 dmis_26 rfl rfl (by decide) (by decide) (by simp) ⟨a291, m, d, rfl, rfl, E318, F318, M2⟩
theorem M_mis (l : Launch) (Z : State) (a0 : Array Value) (g : G Z a0) (h : Heap) (hst : l.stackTraces = true) (r2 : ∃ u sen : Value, u.isRef = true ∧ sen.isRef = true ∧ Sta Z Z.heap "java/lang/Throwable" "UNASSIGNED_STACK" "[Ljava/lang/StackTraceElement;" u ∧ Sta Z Z.heap "java/lang/Throwable" "SUPPRESSED_SENTINEL" "Ljava/util/List;" sen) (s t : Addr) (cs : List Int32) (F : St Z h s t cs) (hc : cs.length ≤ 3) : wkM l Z bmis rmis #[.ref s] h [] (fun v h' os => ∃ e m d, v = some (.ref e) ∧ os = [] ∧ Exa Z h' e "com/example/sieve_for_sparql/sieveforsparql/InputException" ∧ Fld Z h' e "java/lang/Throwable" "detailMessage" "Ljava/lang/String;" (.ref m) ∧ St Z h' m d (cs ++ REQ)) := by
  rcases F with F | F
  · exact M_misL l Z a0 g h hst r2 s t cs F hc
  · exact M_misU l Z a0 g h hst r2 s t cs F hc
theorem mask16 (x : Int32) : ∃ z, (x &&& 65535).toUInt32.toUInt16.toUInt32.toInt32 = z ∧ ¬ z < 0 ∧ ¬ 65535 < z := by
  refine ⟨_, rfl, ?_⟩
  have h := c_i2c (x &&& 65535)
  simp only [Int32.lt_iff_toInt_lt, Int32.reduceToInt]
  omega
set_option maxRecDepth 65536 in
set_option maxHeartbeats 4000000 in
theorem T_law0 (l : Launch) (Z : State) (a0 : Array Value) (g : G Z a0) (hs h : Heap) (ws : List Addr) (i0 i1 i2 i3 n c0 c1 c2 : Int32) (s e m d : Addr) (EE : Exa Z h e "com/example/sieve_for_sparql/sieveforsparql/InputException") (FM : Fld Z h e "java/lang/Throwable" "detailMessage" "Ljava/lang/String;" (.ref m)) (F : St Z h m d [32, 105, 115, 32, 114, 101, 113, 117, 105, 114, 101, 100]) : wkP l Z blaw room_1 hs [] (fun v h' os => v = some (.int 1)) ws h 30 6000 195 #[.val (.int i0), .val (.int i1), .val (.int i2), .val (.int i3), .val (.int n), .val (.int c0), .val (.int c1), .val (.int c2), .val (.ref s), .val (.int (0 : Int32)), .val (.int c0), .val (.int c1), .val (.int c2), .val (.int (120 : Int32)), .unset, .unset, .unset, .unset] [(.ref e)] := by
  refine wkP.astore 197 #[.val (.int i0), .val (.int i1), .val (.int i2), .val (.int i3), .val (.int n), .val (.int c0), .val (.int c1), .val (.int c2), .val (.ref s), .val (.int (0 : Int32)), .val (.int c0), .val (.int c1), .val (.int c2), .val (.int (120 : Int32)), .val (.ref e), .unset, .unset, .unset] at_195 rfl rfl rfl ?_
  refine wkP.aload 199 at_197 rfl rfl rfl ?_
  refine wkP.ifnonnullT 204 at_199 (by decide) rfl ?_
  refine wkP.aload 206 at_204 rfl rfl rfl ?_
  refine wkP.callW 209 (M_gm l Z a0 g _ e m FM) [] [] 0 g.2.1 EE (w199 g.1) (w200 g.1) (w201 g.1) (by decide) (w203 g.1) (w202 g.1) (w160 g.1) (w204 g.1) at_206 (lenOf pd32 rfl) rfl rfl rfl (by simp) (Nat.le_of_eq rfl) (by decide) (by decide) (by decide) (by decide) rfl ?_
  rintro v319 _ o319 ⟨rfl, rfl, rfl⟩ K319
  refine wkP.astore 211 #[.val (.int i0), .val (.int i1), .val (.int i2), .val (.int i3), .val (.int n), .val (.int c0), .val (.int c1), .val (.int c2), .val (.ref s), .val (.int (0 : Int32)), .val (.int c0), .val (.int c1), .val (.int c2), .val (.int (120 : Int32)), .val (.ref e), .val (.ref m), .unset, .unset] at_209 rfl rfl rfl ?_
  refine wkP.aload 213 at_211 rfl rfl rfl ?_
  refine wkP.ifnonnullT 218 at_213 (by decide) rfl ?_
  refine wkP.aload 220 at_218 rfl rfl rfl ?_
  refine wkP.callV 223 (M_len l Z a0 g _ m d [32, 105, 115, 32, 114, 101, 113, 117, 105, 114, 101, 100] F) [] [] 0 g.2.1 F.exa (wkNFs (w61 g.1)) (w205 g.1) (w59 g.1) (w61 g.1) (w60 g.1) (w3 g.1) (w62 g.1) (by decide) at_220 (lenOf pd22 rfl) rfl rfl rfl (by simp) (Nat.le_of_eq rfl) (by decide) (by decide) (by decide) (by decide) rfl ?_
  rintro v320 _ o320 ⟨rfl, rfl, rfl⟩ K320
  refine wkP.iload 225 at_223 rfl rfl ?_
  refine wkP.bipush 227 (12 : Int32) at_225 rfl rfl ?_
  refine wkP.iadd 228 (12 : Int32) at_227 (by decide) rfl ?_
  refine wkP.icmpT 233 at_228 (show (12 : Int32) = (12 : Int32) from (by decide)) (by decide) (by decide) ?_
  refine wkP.iload 235 at_233 rfl rfl ?_
  refine wkP.iconst 236 (1 : Int32) at_235 rfl rfl ?_
  refine wkP.icmpT 250 at_236 (show (0 : Int32) < (1 : Int32) from (by decide)) (by decide) (by decide) ?_
  refine wkP.iload 252 at_250 rfl rfl ?_
  refine wkP.iconst 253 (2 : Int32) at_252 rfl rfl ?_
  refine wkP.icmpT 267 at_253 (show (0 : Int32) < (2 : Int32) from (by decide)) (by decide) (by decide) ?_
  refine wkP.iload 269 at_267 rfl rfl ?_
  refine wkP.iconst 270 (3 : Int32) at_269 rfl rfl ?_
  refine wkP.icmpT 284 at_270 (show (0 : Int32) < (3 : Int32) from (by decide)) (by decide) (by decide) ?_
  refine wkP.iload 286 at_284 rfl rfl ?_
  refine wkP.iconst 287 (4 : Int32) at_286 rfl rfl ?_
  refine wkP.icmpT 301 at_287 (show (0 : Int32) < (4 : Int32) from (by decide)) (by decide) (by decide) ?_
  refine wkP.iconst 302 (1 : Int32) at_301 rfl rfl ?_
  refine wkP.goto 306 at_302 (by decide) (by decide) ?_
  refine wkP.istore 308 #[.val (.int i0), .val (.int i1), .val (.int i2), .val (.int i3), .val (.int n), .val (.int c0), .val (.int c1), .val (.int c2), .val (.ref s), .val (.int (0 : Int32)), .val (.int c0), .val (.int c1), .val (.int c2), .val (.int (120 : Int32)), .val (.ref e), .val (.ref m), .val (.int (1 : Int32)), .unset] at_306 rfl rfl ?_
  refine wkP.aload 310 at_308 rfl rfl rfl ?_
  refine wkP.iload 312 at_310 rfl rfl ?_
  refine wkP.callV 315 (M_chAt l Z a0 g _ m d [32, 105, 115, 32, 114, 101, 113, 117, 105, 114, 101, 100] F 0 (32 : Int32) rfl (F.ch (32 : Int32) (by simp))) [(.int (0 : Int32))] [] 0 g.2.1 F.exa (wkNFs (w209 g.1)) (w206 g.1) (w207 g.1) (w209 g.1) (w208 g.1) (w3 g.1) (w210 g.1) (by decide) at_312 (lenOf pd33 rfl) rfl rfl rfl (by simp) (Nat.le_of_eq rfl) (by decide) (by decide) (by decide) (by decide) rfl ?_
  rintro v321 _ o321 ⟨rfl, rfl, rfl⟩ K321
  refine wkP.bipush 317 (32 : Int32) at_315 rfl rfl ?_
  refine wkP.icmpF 320 at_317 (show ¬ (¬ (32 : Int32) = (32 : Int32)) from (by decide)) rfl ?_
  refine wkP.aload 322 at_320 rfl rfl rfl ?_
  refine wkP.iload 324 at_322 rfl rfl ?_
  refine wkP.iconst 325 (1 : Int32) at_324 rfl rfl ?_
  refine wkP.iadd 326 (1 : Int32) at_325 (by decide) rfl ?_
  refine wkP.callV 329 (M_chAt l Z a0 g _ m d [32, 105, 115, 32, 114, 101, 113, 117, 105, 114, 101, 100] F 1 (105 : Int32) rfl (F.ch (105 : Int32) (by simp))) [(.int (1 : Int32))] [] 0 g.2.1 F.exa (wkNFs (w209 g.1)) (w206 g.1) (w207 g.1) (w209 g.1) (w208 g.1) (w3 g.1) (w210 g.1) (by decide) at_326 (lenOf pd33 rfl) rfl rfl rfl (by simp) (Nat.le_of_eq rfl) (by decide) (by decide) (by decide) (by decide) rfl ?_
  rintro v322 _ o322 ⟨rfl, rfl, rfl⟩ K322
  refine wkP.bipush 331 (105 : Int32) at_329 rfl rfl ?_
  refine wkP.icmpF 334 at_331 (show ¬ (¬ (105 : Int32) = (105 : Int32)) from (by decide)) rfl ?_
  refine wkP.aload 336 at_334 rfl rfl rfl ?_
  refine wkP.iload 338 at_336 rfl rfl ?_
  refine wkP.iconst 339 (2 : Int32) at_338 rfl rfl ?_
  refine wkP.iadd 340 (2 : Int32) at_339 (by decide) rfl ?_
  refine wkP.callV 343 (M_chAt l Z a0 g _ m d [32, 105, 115, 32, 114, 101, 113, 117, 105, 114, 101, 100] F 2 (115 : Int32) rfl (F.ch (115 : Int32) (by simp))) [(.int (2 : Int32))] [] 0 g.2.1 F.exa (wkNFs (w209 g.1)) (w206 g.1) (w207 g.1) (w209 g.1) (w208 g.1) (w3 g.1) (w210 g.1) (by decide) at_340 (lenOf pd33 rfl) rfl rfl rfl (by simp) (Nat.le_of_eq rfl) (by decide) (by decide) (by decide) (by decide) rfl ?_
  rintro v323 _ o323 ⟨rfl, rfl, rfl⟩ K323
  refine wkP.bipush 345 (115 : Int32) at_343 rfl rfl ?_
  refine wkP.icmpF 348 at_345 (show ¬ (¬ (115 : Int32) = (115 : Int32)) from (by decide)) rfl ?_
  refine wkP.aload 350 at_348 rfl rfl rfl ?_
  refine wkP.iload 352 at_350 rfl rfl ?_
  refine wkP.iconst 353 (3 : Int32) at_352 rfl rfl ?_
  refine wkP.iadd 354 (3 : Int32) at_353 (by decide) rfl ?_
  refine wkP.callV 357 (M_chAt l Z a0 g _ m d [32, 105, 115, 32, 114, 101, 113, 117, 105, 114, 101, 100] F 3 (32 : Int32) rfl (F.ch (32 : Int32) (by simp))) [(.int (3 : Int32))] [] 0 g.2.1 F.exa (wkNFs (w209 g.1)) (w206 g.1) (w207 g.1) (w209 g.1) (w208 g.1) (w3 g.1) (w210 g.1) (by decide) at_354 (lenOf pd33 rfl) rfl rfl rfl (by simp) (Nat.le_of_eq rfl) (by decide) (by decide) (by decide) (by decide) rfl ?_
  rintro v324 _ o324 ⟨rfl, rfl, rfl⟩ K324
  refine wkP.bipush 359 (32 : Int32) at_357 rfl rfl ?_
  refine wkP.icmpF 362 at_359 (show ¬ (¬ (32 : Int32) = (32 : Int32)) from (by decide)) rfl ?_
  refine wkP.aload 364 at_362 rfl rfl rfl ?_
  refine wkP.iload 366 at_364 rfl rfl ?_
  refine wkP.iconst 367 (4 : Int32) at_366 rfl rfl ?_
  refine wkP.iadd 368 (4 : Int32) at_367 (by decide) rfl ?_
  refine wkP.callV 371 (M_chAt l Z a0 g _ m d [32, 105, 115, 32, 114, 101, 113, 117, 105, 114, 101, 100] F 4 (114 : Int32) rfl (F.ch (114 : Int32) (by simp))) [(.int (4 : Int32))] [] 0 g.2.1 F.exa (wkNFs (w209 g.1)) (w206 g.1) (w207 g.1) (w209 g.1) (w208 g.1) (w3 g.1) (w210 g.1) (by decide) at_368 (lenOf pd33 rfl) rfl rfl rfl (by simp) (Nat.le_of_eq rfl) (by decide) (by decide) (by decide) (by decide) rfl ?_
  rintro v325 _ o325 ⟨rfl, rfl, rfl⟩ K325
  refine wkP.bipush 373 (114 : Int32) at_371 rfl rfl ?_
  refine wkP.icmpF 376 at_373 (show ¬ (¬ (114 : Int32) = (114 : Int32)) from (by decide)) rfl ?_
  refine wkP.aload 378 at_376 rfl rfl rfl ?_
  refine wkP.iload 380 at_378 rfl rfl ?_
  refine wkP.iconst 381 (5 : Int32) at_380 rfl rfl ?_
  refine wkP.iadd 382 (5 : Int32) at_381 (by decide) rfl ?_
  refine wkP.callV 385 (M_chAt l Z a0 g _ m d [32, 105, 115, 32, 114, 101, 113, 117, 105, 114, 101, 100] F 5 (101 : Int32) rfl (F.ch (101 : Int32) (by simp))) [(.int (5 : Int32))] [] 0 g.2.1 F.exa (wkNFs (w209 g.1)) (w206 g.1) (w207 g.1) (w209 g.1) (w208 g.1) (w3 g.1) (w210 g.1) (by decide) at_382 (lenOf pd33 rfl) rfl rfl rfl (by simp) (Nat.le_of_eq rfl) (by decide) (by decide) (by decide) (by decide) rfl ?_
  rintro v326 _ o326 ⟨rfl, rfl, rfl⟩ K326
  refine wkP.bipush 387 (101 : Int32) at_385 rfl rfl ?_
  refine wkP.icmpF 390 at_387 (show ¬ (¬ (101 : Int32) = (101 : Int32)) from (by decide)) rfl ?_
  refine wkP.aload 392 at_390 rfl rfl rfl ?_
  refine wkP.iload 394 at_392 rfl rfl ?_
  refine wkP.bipush 396 (6 : Int32) at_394 rfl rfl ?_
  refine wkP.iadd 397 (6 : Int32) at_396 (by decide) rfl ?_
  refine wkP.callV 400 (M_chAt l Z a0 g _ m d [32, 105, 115, 32, 114, 101, 113, 117, 105, 114, 101, 100] F 6 (113 : Int32) rfl (F.ch (113 : Int32) (by simp))) [(.int (6 : Int32))] [] 0 g.2.1 F.exa (wkNFs (w209 g.1)) (w206 g.1) (w207 g.1) (w209 g.1) (w208 g.1) (w3 g.1) (w210 g.1) (by decide) at_397 (lenOf pd33 rfl) rfl rfl rfl (by simp) (Nat.le_of_eq rfl) (by decide) (by decide) (by decide) (by decide) rfl ?_
  rintro v327 _ o327 ⟨rfl, rfl, rfl⟩ K327
  refine wkP.bipush 402 (113 : Int32) at_400 rfl rfl ?_
  refine wkP.icmpF 405 at_402 (show ¬ (¬ (113 : Int32) = (113 : Int32)) from (by decide)) rfl ?_
  refine wkP.aload 407 at_405 rfl rfl rfl ?_
  refine wkP.iload 409 at_407 rfl rfl ?_
  refine wkP.bipush 411 (7 : Int32) at_409 rfl rfl ?_
  refine wkP.iadd 412 (7 : Int32) at_411 (by decide) rfl ?_
  refine wkP.callV 415 (M_chAt l Z a0 g _ m d [32, 105, 115, 32, 114, 101, 113, 117, 105, 114, 101, 100] F 7 (117 : Int32) rfl (F.ch (117 : Int32) (by simp))) [(.int (7 : Int32))] [] 0 g.2.1 F.exa (wkNFs (w209 g.1)) (w206 g.1) (w207 g.1) (w209 g.1) (w208 g.1) (w3 g.1) (w210 g.1) (by decide) at_412 (lenOf pd33 rfl) rfl rfl rfl (by simp) (Nat.le_of_eq rfl) (by decide) (by decide) (by decide) (by decide) rfl ?_
  rintro v328 _ o328 ⟨rfl, rfl, rfl⟩ K328
  refine wkP.bipush 417 (117 : Int32) at_415 rfl rfl ?_
  refine wkP.icmpF 420 at_417 (show ¬ (¬ (117 : Int32) = (117 : Int32)) from (by decide)) rfl ?_
  refine wkP.aload 422 at_420 rfl rfl rfl ?_
  refine wkP.iload 424 at_422 rfl rfl ?_
  refine wkP.bipush 426 (8 : Int32) at_424 rfl rfl ?_
  refine wkP.iadd 427 (8 : Int32) at_426 (by decide) rfl ?_
  refine wkP.callV 430 (M_chAt l Z a0 g _ m d [32, 105, 115, 32, 114, 101, 113, 117, 105, 114, 101, 100] F 8 (105 : Int32) rfl (F.ch (105 : Int32) (by simp))) [(.int (8 : Int32))] [] 0 g.2.1 F.exa (wkNFs (w209 g.1)) (w206 g.1) (w207 g.1) (w209 g.1) (w208 g.1) (w3 g.1) (w210 g.1) (by decide) at_427 (lenOf pd33 rfl) rfl rfl rfl (by simp) (Nat.le_of_eq rfl) (by decide) (by decide) (by decide) (by decide) rfl ?_
  rintro v329 _ o329 ⟨rfl, rfl, rfl⟩ K329
  refine wkP.bipush 432 (105 : Int32) at_430 rfl rfl ?_
  refine wkP.icmpF 435 at_432 (show ¬ (¬ (105 : Int32) = (105 : Int32)) from (by decide)) rfl ?_
  refine wkP.aload 437 at_435 rfl rfl rfl ?_
  refine wkP.iload 439 at_437 rfl rfl ?_
  refine wkP.bipush 441 (9 : Int32) at_439 rfl rfl ?_
  refine wkP.iadd 442 (9 : Int32) at_441 (by decide) rfl ?_
  refine wkP.callV 445 (M_chAt l Z a0 g _ m d [32, 105, 115, 32, 114, 101, 113, 117, 105, 114, 101, 100] F 9 (114 : Int32) rfl (F.ch (114 : Int32) (by simp))) [(.int (9 : Int32))] [] 0 g.2.1 F.exa (wkNFs (w209 g.1)) (w206 g.1) (w207 g.1) (w209 g.1) (w208 g.1) (w3 g.1) (w210 g.1) (by decide) at_442 (lenOf pd33 rfl) rfl rfl rfl (by simp) (Nat.le_of_eq rfl) (by decide) (by decide) (by decide) (by decide) rfl ?_
  rintro v330 _ o330 ⟨rfl, rfl, rfl⟩ K330
  refine wkP.bipush 447 (114 : Int32) at_445 rfl rfl ?_
  refine wkP.icmpF 450 at_447 (show ¬ (¬ (114 : Int32) = (114 : Int32)) from (by decide)) rfl ?_
  refine wkP.aload 452 at_450 rfl rfl rfl ?_
  refine wkP.iload 454 at_452 rfl rfl ?_
  refine wkP.bipush 456 (10 : Int32) at_454 rfl rfl ?_
  refine wkP.iadd 457 (10 : Int32) at_456 (by decide) rfl ?_
  refine wkP.callV 460 (M_chAt l Z a0 g _ m d [32, 105, 115, 32, 114, 101, 113, 117, 105, 114, 101, 100] F 10 (101 : Int32) rfl (F.ch (101 : Int32) (by simp))) [(.int (10 : Int32))] [] 0 g.2.1 F.exa (wkNFs (w209 g.1)) (w206 g.1) (w207 g.1) (w209 g.1) (w208 g.1) (w3 g.1) (w210 g.1) (by decide) at_457 (lenOf pd33 rfl) rfl rfl rfl (by simp) (Nat.le_of_eq rfl) (by decide) (by decide) (by decide) (by decide) rfl ?_
  rintro v331 _ o331 ⟨rfl, rfl, rfl⟩ K331
  refine wkP.bipush 462 (101 : Int32) at_460 rfl rfl ?_
  refine wkP.icmpF 465 at_462 (show ¬ (¬ (101 : Int32) = (101 : Int32)) from (by decide)) rfl ?_
  refine wkP.aload 467 at_465 rfl rfl rfl ?_
  refine wkP.iload 469 at_467 rfl rfl ?_
  refine wkP.bipush 471 (11 : Int32) at_469 rfl rfl ?_
  refine wkP.iadd 472 (11 : Int32) at_471 (by decide) rfl ?_
  refine wkP.callV 475 (M_chAt l Z a0 g _ m d [32, 105, 115, 32, 114, 101, 113, 117, 105, 114, 101, 100] F 11 (100 : Int32) rfl (F.ch (100 : Int32) (by simp))) [(.int (11 : Int32))] [] 0 g.2.1 F.exa (wkNFs (w209 g.1)) (w206 g.1) (w207 g.1) (w209 g.1) (w208 g.1) (w3 g.1) (w210 g.1) (by decide) at_472 (lenOf pd33 rfl) rfl rfl rfl (by simp) (Nat.le_of_eq rfl) (by decide) (by decide) (by decide) (by decide) rfl ?_
  rintro v332 _ o332 ⟨rfl, rfl, rfl⟩ K332
  refine wkP.bipush 477 (100 : Int32) at_475 rfl rfl ?_
  refine wkP.icmpF 480 at_477 (show ¬ (¬ (100 : Int32) = (100 : Int32)) from (by decide)) rfl ?_
  refine wkP.iconst 481 (1 : Int32) at_480 rfl rfl ?_
  refine wkP.goto 485 at_481 (by decide) (by decide) ?_
  refine wkP.istore 487 #[.val (.int i0), .val (.int i1), .val (.int i2), .val (.int i3), .val (.int n), .val (.int c0), .val (.int c1), .val (.int c2), .val (.ref s), .val (.int (0 : Int32)), .val (.int c0), .val (.int c1), .val (.int c2), .val (.int (120 : Int32)), .val (.ref e), .val (.ref m), .val (.int (1 : Int32)), .val (.int (1 : Int32))] at_485 rfl rfl ?_
  refine wkP.iload 489 at_487 rfl rfl ?_
  refine wkP.ifF 492 at_489 (show ¬ ((1 : Int32) = (0 : Int32)) from (by decide)) rfl ?_
  refine wkP.iload 494 at_492 rfl rfl ?_
  refine wkP.ifF 497 at_494 (show ¬ ((1 : Int32) = (0 : Int32)) from (by decide)) rfl ?_
  refine wkP.iconst 498 (1 : Int32) at_497 rfl rfl ?_
  refine wkP.goto 502 at_498 (by decide) (by decide) ?_
  exact wkP.retI .boolean [] g.2.1 at_502 rfl (by simp) rfl (by decide) (by decide) (by simp) rfl
set_option maxRecDepth 65536 in
set_option maxHeartbeats 4000000 in
theorem T_law1 (l : Launch) (Z : State) (a0 : Array Value) (g : G Z a0) (hs h : Heap) (ws : List Addr) (i0 i1 i2 i3 n c0 c1 c2 : Int32) (s e m d : Addr) (EE : Exa Z h e "com/example/sieve_for_sparql/sieveforsparql/InputException") (FM : Fld Z h e "java/lang/Throwable" "detailMessage" "Ljava/lang/String;" (.ref m)) (F : St Z h m d [c0, 32, 105, 115, 32, 114, 101, 113, 117, 105, 114, 101, 100]) : wkP l Z blaw room_1 hs [] (fun v h' os => v = some (.int 1)) ws h 30 6000 195 #[.val (.int i0), .val (.int i1), .val (.int i2), .val (.int i3), .val (.int n), .val (.int c0), .val (.int c1), .val (.int c2), .val (.ref s), .val (.int (1 : Int32)), .val (.int c0), .val (.int c1), .val (.int c2), .val (.int (120 : Int32)), .unset, .unset, .unset, .unset] [(.ref e)] := by
  refine wkP.astore 197 #[.val (.int i0), .val (.int i1), .val (.int i2), .val (.int i3), .val (.int n), .val (.int c0), .val (.int c1), .val (.int c2), .val (.ref s), .val (.int (1 : Int32)), .val (.int c0), .val (.int c1), .val (.int c2), .val (.int (120 : Int32)), .val (.ref e), .unset, .unset, .unset] at_195 rfl rfl rfl ?_
  refine wkP.aload 199 at_197 rfl rfl rfl ?_
  refine wkP.ifnonnullT 204 at_199 (by decide) rfl ?_
  refine wkP.aload 206 at_204 rfl rfl rfl ?_
  refine wkP.callW 209 (M_gm l Z a0 g _ e m FM) [] [] 0 g.2.1 EE (w199 g.1) (w200 g.1) (w201 g.1) (by decide) (w203 g.1) (w202 g.1) (w160 g.1) (w204 g.1) at_206 (lenOf pd32 rfl) rfl rfl rfl (by simp) (Nat.le_of_eq rfl) (by decide) (by decide) (by decide) (by decide) rfl ?_
  rintro v333 _ o333 ⟨rfl, rfl, rfl⟩ K333
  refine wkP.astore 211 #[.val (.int i0), .val (.int i1), .val (.int i2), .val (.int i3), .val (.int n), .val (.int c0), .val (.int c1), .val (.int c2), .val (.ref s), .val (.int (1 : Int32)), .val (.int c0), .val (.int c1), .val (.int c2), .val (.int (120 : Int32)), .val (.ref e), .val (.ref m), .unset, .unset] at_209 rfl rfl rfl ?_
  refine wkP.aload 213 at_211 rfl rfl rfl ?_
  refine wkP.ifnonnullT 218 at_213 (by decide) rfl ?_
  refine wkP.aload 220 at_218 rfl rfl rfl ?_
  refine wkP.callV 223 (M_len l Z a0 g _ m d [c0, 32, 105, 115, 32, 114, 101, 113, 117, 105, 114, 101, 100] F) [] [] 0 g.2.1 F.exa (wkNFs (w61 g.1)) (w205 g.1) (w59 g.1) (w61 g.1) (w60 g.1) (w3 g.1) (w62 g.1) (by decide) at_220 (lenOf pd22 rfl) rfl rfl rfl (by simp) (Nat.le_of_eq rfl) (by decide) (by decide) (by decide) (by decide) rfl ?_
  rintro v334 _ o334 ⟨rfl, rfl, rfl⟩ K334
  refine wkP.iload 225 at_223 rfl rfl ?_
  refine wkP.bipush 227 (12 : Int32) at_225 rfl rfl ?_
  refine wkP.iadd 228 (13 : Int32) at_227 (by decide) rfl ?_
  refine wkP.icmpT 233 at_228 (show (13 : Int32) = (13 : Int32) from (by decide)) (by decide) (by decide) ?_
  refine wkP.iload 235 at_233 rfl rfl ?_
  refine wkP.iconst 236 (1 : Int32) at_235 rfl rfl ?_
  refine wkP.icmpF 239 at_236 (show ¬ ((1 : Int32) < (1 : Int32)) from (by decide)) rfl ?_
  refine wkP.aload 241 at_239 rfl rfl rfl ?_
  refine wkP.iconst 242 (0 : Int32) at_241 rfl rfl ?_
  refine wkP.callV 245 (M_chAt l Z a0 g _ m d [c0, 32, 105, 115, 32, 114, 101, 113, 117, 105, 114, 101, 100] F 0 c0 rfl (F.ch c0 (by simp))) [(.int (0 : Int32))] [] 0 g.2.1 F.exa (wkNFs (w209 g.1)) (w206 g.1) (w207 g.1) (w209 g.1) (w208 g.1) (w3 g.1) (w210 g.1) (by decide) at_242 (lenOf pd33 rfl) rfl rfl rfl (by simp) (Nat.le_of_eq rfl) (by decide) (by decide) (by decide) (by decide) rfl ?_
  rintro v335 _ o335 ⟨rfl, rfl, rfl⟩ K335
  refine wkP.iload 247 at_245 rfl rfl ?_
  refine wkP.icmpF 250 at_247 (show ¬ (¬ c0 = c0) from (fun q => q rfl)) rfl ?_
  refine wkP.iload 252 at_250 rfl rfl ?_
  refine wkP.iconst 253 (2 : Int32) at_252 rfl rfl ?_
  refine wkP.icmpT 267 at_253 (show (1 : Int32) < (2 : Int32) from (by decide)) (by decide) (by decide) ?_
  refine wkP.iload 269 at_267 rfl rfl ?_
  refine wkP.iconst 270 (3 : Int32) at_269 rfl rfl ?_
  refine wkP.icmpT 284 at_270 (show (1 : Int32) < (3 : Int32) from (by decide)) (by decide) (by decide) ?_
  refine wkP.iload 286 at_284 rfl rfl ?_
  refine wkP.iconst 287 (4 : Int32) at_286 rfl rfl ?_
  refine wkP.icmpT 301 at_287 (show (1 : Int32) < (4 : Int32) from (by decide)) (by decide) (by decide) ?_
  refine wkP.iconst 302 (1 : Int32) at_301 rfl rfl ?_
  refine wkP.goto 306 at_302 (by decide) (by decide) ?_
  refine wkP.istore 308 #[.val (.int i0), .val (.int i1), .val (.int i2), .val (.int i3), .val (.int n), .val (.int c0), .val (.int c1), .val (.int c2), .val (.ref s), .val (.int (1 : Int32)), .val (.int c0), .val (.int c1), .val (.int c2), .val (.int (120 : Int32)), .val (.ref e), .val (.ref m), .val (.int (1 : Int32)), .unset] at_306 rfl rfl ?_
  refine wkP.aload 310 at_308 rfl rfl rfl ?_
  refine wkP.iload 312 at_310 rfl rfl ?_
  refine wkP.callV 315 (M_chAt l Z a0 g _ m d [c0, 32, 105, 115, 32, 114, 101, 113, 117, 105, 114, 101, 100] F 1 (32 : Int32) rfl (F.ch (32 : Int32) (by simp))) [(.int (1 : Int32))] [] 0 g.2.1 F.exa (wkNFs (w209 g.1)) (w206 g.1) (w207 g.1) (w209 g.1) (w208 g.1) (w3 g.1) (w210 g.1) (by decide) at_312 (lenOf pd33 rfl) rfl rfl rfl (by simp) (Nat.le_of_eq rfl) (by decide) (by decide) (by decide) (by decide) rfl ?_
  rintro v336 _ o336 ⟨rfl, rfl, rfl⟩ K336
  refine wkP.bipush 317 (32 : Int32) at_315 rfl rfl ?_
  refine wkP.icmpF 320 at_317 (show ¬ (¬ (32 : Int32) = (32 : Int32)) from (by decide)) rfl ?_
  refine wkP.aload 322 at_320 rfl rfl rfl ?_
  refine wkP.iload 324 at_322 rfl rfl ?_
  refine wkP.iconst 325 (1 : Int32) at_324 rfl rfl ?_
  refine wkP.iadd 326 (2 : Int32) at_325 (by decide) rfl ?_
  refine wkP.callV 329 (M_chAt l Z a0 g _ m d [c0, 32, 105, 115, 32, 114, 101, 113, 117, 105, 114, 101, 100] F 2 (105 : Int32) rfl (F.ch (105 : Int32) (by simp))) [(.int (2 : Int32))] [] 0 g.2.1 F.exa (wkNFs (w209 g.1)) (w206 g.1) (w207 g.1) (w209 g.1) (w208 g.1) (w3 g.1) (w210 g.1) (by decide) at_326 (lenOf pd33 rfl) rfl rfl rfl (by simp) (Nat.le_of_eq rfl) (by decide) (by decide) (by decide) (by decide) rfl ?_
  rintro v337 _ o337 ⟨rfl, rfl, rfl⟩ K337
  refine wkP.bipush 331 (105 : Int32) at_329 rfl rfl ?_
  refine wkP.icmpF 334 at_331 (show ¬ (¬ (105 : Int32) = (105 : Int32)) from (by decide)) rfl ?_
  refine wkP.aload 336 at_334 rfl rfl rfl ?_
  refine wkP.iload 338 at_336 rfl rfl ?_
  refine wkP.iconst 339 (2 : Int32) at_338 rfl rfl ?_
  refine wkP.iadd 340 (3 : Int32) at_339 (by decide) rfl ?_
  refine wkP.callV 343 (M_chAt l Z a0 g _ m d [c0, 32, 105, 115, 32, 114, 101, 113, 117, 105, 114, 101, 100] F 3 (115 : Int32) rfl (F.ch (115 : Int32) (by simp))) [(.int (3 : Int32))] [] 0 g.2.1 F.exa (wkNFs (w209 g.1)) (w206 g.1) (w207 g.1) (w209 g.1) (w208 g.1) (w3 g.1) (w210 g.1) (by decide) at_340 (lenOf pd33 rfl) rfl rfl rfl (by simp) (Nat.le_of_eq rfl) (by decide) (by decide) (by decide) (by decide) rfl ?_
  rintro v338 _ o338 ⟨rfl, rfl, rfl⟩ K338
  refine wkP.bipush 345 (115 : Int32) at_343 rfl rfl ?_
  refine wkP.icmpF 348 at_345 (show ¬ (¬ (115 : Int32) = (115 : Int32)) from (by decide)) rfl ?_
  refine wkP.aload 350 at_348 rfl rfl rfl ?_
  refine wkP.iload 352 at_350 rfl rfl ?_
  refine wkP.iconst 353 (3 : Int32) at_352 rfl rfl ?_
  refine wkP.iadd 354 (4 : Int32) at_353 (by decide) rfl ?_
  refine wkP.callV 357 (M_chAt l Z a0 g _ m d [c0, 32, 105, 115, 32, 114, 101, 113, 117, 105, 114, 101, 100] F 4 (32 : Int32) rfl (F.ch (32 : Int32) (by simp))) [(.int (4 : Int32))] [] 0 g.2.1 F.exa (wkNFs (w209 g.1)) (w206 g.1) (w207 g.1) (w209 g.1) (w208 g.1) (w3 g.1) (w210 g.1) (by decide) at_354 (lenOf pd33 rfl) rfl rfl rfl (by simp) (Nat.le_of_eq rfl) (by decide) (by decide) (by decide) (by decide) rfl ?_
  rintro v339 _ o339 ⟨rfl, rfl, rfl⟩ K339
  refine wkP.bipush 359 (32 : Int32) at_357 rfl rfl ?_
  refine wkP.icmpF 362 at_359 (show ¬ (¬ (32 : Int32) = (32 : Int32)) from (by decide)) rfl ?_
  refine wkP.aload 364 at_362 rfl rfl rfl ?_
  refine wkP.iload 366 at_364 rfl rfl ?_
  refine wkP.iconst 367 (4 : Int32) at_366 rfl rfl ?_
  refine wkP.iadd 368 (5 : Int32) at_367 (by decide) rfl ?_
  refine wkP.callV 371 (M_chAt l Z a0 g _ m d [c0, 32, 105, 115, 32, 114, 101, 113, 117, 105, 114, 101, 100] F 5 (114 : Int32) rfl (F.ch (114 : Int32) (by simp))) [(.int (5 : Int32))] [] 0 g.2.1 F.exa (wkNFs (w209 g.1)) (w206 g.1) (w207 g.1) (w209 g.1) (w208 g.1) (w3 g.1) (w210 g.1) (by decide) at_368 (lenOf pd33 rfl) rfl rfl rfl (by simp) (Nat.le_of_eq rfl) (by decide) (by decide) (by decide) (by decide) rfl ?_
  rintro v340 _ o340 ⟨rfl, rfl, rfl⟩ K340
  refine wkP.bipush 373 (114 : Int32) at_371 rfl rfl ?_
  refine wkP.icmpF 376 at_373 (show ¬ (¬ (114 : Int32) = (114 : Int32)) from (by decide)) rfl ?_
  refine wkP.aload 378 at_376 rfl rfl rfl ?_
  refine wkP.iload 380 at_378 rfl rfl ?_
  refine wkP.iconst 381 (5 : Int32) at_380 rfl rfl ?_
  refine wkP.iadd 382 (6 : Int32) at_381 (by decide) rfl ?_
  refine wkP.callV 385 (M_chAt l Z a0 g _ m d [c0, 32, 105, 115, 32, 114, 101, 113, 117, 105, 114, 101, 100] F 6 (101 : Int32) rfl (F.ch (101 : Int32) (by simp))) [(.int (6 : Int32))] [] 0 g.2.1 F.exa (wkNFs (w209 g.1)) (w206 g.1) (w207 g.1) (w209 g.1) (w208 g.1) (w3 g.1) (w210 g.1) (by decide) at_382 (lenOf pd33 rfl) rfl rfl rfl (by simp) (Nat.le_of_eq rfl) (by decide) (by decide) (by decide) (by decide) rfl ?_
  rintro v341 _ o341 ⟨rfl, rfl, rfl⟩ K341
  refine wkP.bipush 387 (101 : Int32) at_385 rfl rfl ?_
  refine wkP.icmpF 390 at_387 (show ¬ (¬ (101 : Int32) = (101 : Int32)) from (by decide)) rfl ?_
  refine wkP.aload 392 at_390 rfl rfl rfl ?_
  refine wkP.iload 394 at_392 rfl rfl ?_
  refine wkP.bipush 396 (6 : Int32) at_394 rfl rfl ?_
  refine wkP.iadd 397 (7 : Int32) at_396 (by decide) rfl ?_
  refine wkP.callV 400 (M_chAt l Z a0 g _ m d [c0, 32, 105, 115, 32, 114, 101, 113, 117, 105, 114, 101, 100] F 7 (113 : Int32) rfl (F.ch (113 : Int32) (by simp))) [(.int (7 : Int32))] [] 0 g.2.1 F.exa (wkNFs (w209 g.1)) (w206 g.1) (w207 g.1) (w209 g.1) (w208 g.1) (w3 g.1) (w210 g.1) (by decide) at_397 (lenOf pd33 rfl) rfl rfl rfl (by simp) (Nat.le_of_eq rfl) (by decide) (by decide) (by decide) (by decide) rfl ?_
  rintro v342 _ o342 ⟨rfl, rfl, rfl⟩ K342
  refine wkP.bipush 402 (113 : Int32) at_400 rfl rfl ?_
  refine wkP.icmpF 405 at_402 (show ¬ (¬ (113 : Int32) = (113 : Int32)) from (by decide)) rfl ?_
  refine wkP.aload 407 at_405 rfl rfl rfl ?_
  refine wkP.iload 409 at_407 rfl rfl ?_
  refine wkP.bipush 411 (7 : Int32) at_409 rfl rfl ?_
  refine wkP.iadd 412 (8 : Int32) at_411 (by decide) rfl ?_
  refine wkP.callV 415 (M_chAt l Z a0 g _ m d [c0, 32, 105, 115, 32, 114, 101, 113, 117, 105, 114, 101, 100] F 8 (117 : Int32) rfl (F.ch (117 : Int32) (by simp))) [(.int (8 : Int32))] [] 0 g.2.1 F.exa (wkNFs (w209 g.1)) (w206 g.1) (w207 g.1) (w209 g.1) (w208 g.1) (w3 g.1) (w210 g.1) (by decide) at_412 (lenOf pd33 rfl) rfl rfl rfl (by simp) (Nat.le_of_eq rfl) (by decide) (by decide) (by decide) (by decide) rfl ?_
  rintro v343 _ o343 ⟨rfl, rfl, rfl⟩ K343
  refine wkP.bipush 417 (117 : Int32) at_415 rfl rfl ?_
  refine wkP.icmpF 420 at_417 (show ¬ (¬ (117 : Int32) = (117 : Int32)) from (by decide)) rfl ?_
  refine wkP.aload 422 at_420 rfl rfl rfl ?_
  refine wkP.iload 424 at_422 rfl rfl ?_
  refine wkP.bipush 426 (8 : Int32) at_424 rfl rfl ?_
  refine wkP.iadd 427 (9 : Int32) at_426 (by decide) rfl ?_
  refine wkP.callV 430 (M_chAt l Z a0 g _ m d [c0, 32, 105, 115, 32, 114, 101, 113, 117, 105, 114, 101, 100] F 9 (105 : Int32) rfl (F.ch (105 : Int32) (by simp))) [(.int (9 : Int32))] [] 0 g.2.1 F.exa (wkNFs (w209 g.1)) (w206 g.1) (w207 g.1) (w209 g.1) (w208 g.1) (w3 g.1) (w210 g.1) (by decide) at_427 (lenOf pd33 rfl) rfl rfl rfl (by simp) (Nat.le_of_eq rfl) (by decide) (by decide) (by decide) (by decide) rfl ?_
  rintro v344 _ o344 ⟨rfl, rfl, rfl⟩ K344
  refine wkP.bipush 432 (105 : Int32) at_430 rfl rfl ?_
  refine wkP.icmpF 435 at_432 (show ¬ (¬ (105 : Int32) = (105 : Int32)) from (by decide)) rfl ?_
  refine wkP.aload 437 at_435 rfl rfl rfl ?_
  refine wkP.iload 439 at_437 rfl rfl ?_
  refine wkP.bipush 441 (9 : Int32) at_439 rfl rfl ?_
  refine wkP.iadd 442 (10 : Int32) at_441 (by decide) rfl ?_
  refine wkP.callV 445 (M_chAt l Z a0 g _ m d [c0, 32, 105, 115, 32, 114, 101, 113, 117, 105, 114, 101, 100] F 10 (114 : Int32) rfl (F.ch (114 : Int32) (by simp))) [(.int (10 : Int32))] [] 0 g.2.1 F.exa (wkNFs (w209 g.1)) (w206 g.1) (w207 g.1) (w209 g.1) (w208 g.1) (w3 g.1) (w210 g.1) (by decide) at_442 (lenOf pd33 rfl) rfl rfl rfl (by simp) (Nat.le_of_eq rfl) (by decide) (by decide) (by decide) (by decide) rfl ?_
  rintro v345 _ o345 ⟨rfl, rfl, rfl⟩ K345
  refine wkP.bipush 447 (114 : Int32) at_445 rfl rfl ?_
  refine wkP.icmpF 450 at_447 (show ¬ (¬ (114 : Int32) = (114 : Int32)) from (by decide)) rfl ?_
  refine wkP.aload 452 at_450 rfl rfl rfl ?_
  refine wkP.iload 454 at_452 rfl rfl ?_
  refine wkP.bipush 456 (10 : Int32) at_454 rfl rfl ?_
  refine wkP.iadd 457 (11 : Int32) at_456 (by decide) rfl ?_
  refine wkP.callV 460 (M_chAt l Z a0 g _ m d [c0, 32, 105, 115, 32, 114, 101, 113, 117, 105, 114, 101, 100] F 11 (101 : Int32) rfl (F.ch (101 : Int32) (by simp))) [(.int (11 : Int32))] [] 0 g.2.1 F.exa (wkNFs (w209 g.1)) (w206 g.1) (w207 g.1) (w209 g.1) (w208 g.1) (w3 g.1) (w210 g.1) (by decide) at_457 (lenOf pd33 rfl) rfl rfl rfl (by simp) (Nat.le_of_eq rfl) (by decide) (by decide) (by decide) (by decide) rfl ?_
  rintro v346 _ o346 ⟨rfl, rfl, rfl⟩ K346
  refine wkP.bipush 462 (101 : Int32) at_460 rfl rfl ?_
  refine wkP.icmpF 465 at_462 (show ¬ (¬ (101 : Int32) = (101 : Int32)) from (by decide)) rfl ?_
  refine wkP.aload 467 at_465 rfl rfl rfl ?_
  refine wkP.iload 469 at_467 rfl rfl ?_
  refine wkP.bipush 471 (11 : Int32) at_469 rfl rfl ?_
  refine wkP.iadd 472 (12 : Int32) at_471 (by decide) rfl ?_
  refine wkP.callV 475 (M_chAt l Z a0 g _ m d [c0, 32, 105, 115, 32, 114, 101, 113, 117, 105, 114, 101, 100] F 12 (100 : Int32) rfl (F.ch (100 : Int32) (by simp))) [(.int (12 : Int32))] [] 0 g.2.1 F.exa (wkNFs (w209 g.1)) (w206 g.1) (w207 g.1) (w209 g.1) (w208 g.1) (w3 g.1) (w210 g.1) (by decide) at_472 (lenOf pd33 rfl) rfl rfl rfl (by simp) (Nat.le_of_eq rfl) (by decide) (by decide) (by decide) (by decide) rfl ?_
  rintro v347 _ o347 ⟨rfl, rfl, rfl⟩ K347
  refine wkP.bipush 477 (100 : Int32) at_475 rfl rfl ?_
  refine wkP.icmpF 480 at_477 (show ¬ (¬ (100 : Int32) = (100 : Int32)) from (by decide)) rfl ?_
  refine wkP.iconst 481 (1 : Int32) at_480 rfl rfl ?_
  refine wkP.goto 485 at_481 (by decide) (by decide) ?_
  refine wkP.istore 487 #[.val (.int i0), .val (.int i1), .val (.int i2), .val (.int i3), .val (.int n), .val (.int c0), .val (.int c1), .val (.int c2), .val (.ref s), .val (.int (1 : Int32)), .val (.int c0), .val (.int c1), .val (.int c2), .val (.int (120 : Int32)), .val (.ref e), .val (.ref m), .val (.int (1 : Int32)), .val (.int (1 : Int32))] at_485 rfl rfl ?_
  refine wkP.iload 489 at_487 rfl rfl ?_
  refine wkP.ifF 492 at_489 (show ¬ ((1 : Int32) = (0 : Int32)) from (by decide)) rfl ?_
  refine wkP.iload 494 at_492 rfl rfl ?_
  refine wkP.ifF 497 at_494 (show ¬ ((1 : Int32) = (0 : Int32)) from (by decide)) rfl ?_
  refine wkP.iconst 498 (1 : Int32) at_497 rfl rfl ?_
  refine wkP.goto 502 at_498 (by decide) (by decide) ?_
  exact wkP.retI .boolean [] g.2.1 at_502 rfl (by simp) rfl (by decide) (by decide) (by simp) rfl
set_option maxRecDepth 65536 in
set_option maxHeartbeats 4000000 in
theorem T_law2 (l : Launch) (Z : State) (a0 : Array Value) (g : G Z a0) (hs h : Heap) (ws : List Addr) (i0 i1 i2 i3 n c0 c1 c2 : Int32) (s e m d : Addr) (EE : Exa Z h e "com/example/sieve_for_sparql/sieveforsparql/InputException") (FM : Fld Z h e "java/lang/Throwable" "detailMessage" "Ljava/lang/String;" (.ref m)) (F : St Z h m d [c0, c1, 32, 105, 115, 32, 114, 101, 113, 117, 105, 114, 101, 100]) : wkP l Z blaw room_1 hs [] (fun v h' os => v = some (.int 1)) ws h 30 6000 195 #[.val (.int i0), .val (.int i1), .val (.int i2), .val (.int i3), .val (.int n), .val (.int c0), .val (.int c1), .val (.int c2), .val (.ref s), .val (.int (2 : Int32)), .val (.int c0), .val (.int c1), .val (.int c2), .val (.int (120 : Int32)), .unset, .unset, .unset, .unset] [(.ref e)] := by
  refine wkP.astore 197 #[.val (.int i0), .val (.int i1), .val (.int i2), .val (.int i3), .val (.int n), .val (.int c0), .val (.int c1), .val (.int c2), .val (.ref s), .val (.int (2 : Int32)), .val (.int c0), .val (.int c1), .val (.int c2), .val (.int (120 : Int32)), .val (.ref e), .unset, .unset, .unset] at_195 rfl rfl rfl ?_
  refine wkP.aload 199 at_197 rfl rfl rfl ?_
  refine wkP.ifnonnullT 204 at_199 (by decide) rfl ?_
  refine wkP.aload 206 at_204 rfl rfl rfl ?_
  refine wkP.callW 209 (M_gm l Z a0 g _ e m FM) [] [] 0 g.2.1 EE (w199 g.1) (w200 g.1) (w201 g.1) (by decide) (w203 g.1) (w202 g.1) (w160 g.1) (w204 g.1) at_206 (lenOf pd32 rfl) rfl rfl rfl (by simp) (Nat.le_of_eq rfl) (by decide) (by decide) (by decide) (by decide) rfl ?_
  rintro v348 _ o348 ⟨rfl, rfl, rfl⟩ K348
  refine wkP.astore 211 #[.val (.int i0), .val (.int i1), .val (.int i2), .val (.int i3), .val (.int n), .val (.int c0), .val (.int c1), .val (.int c2), .val (.ref s), .val (.int (2 : Int32)), .val (.int c0), .val (.int c1), .val (.int c2), .val (.int (120 : Int32)), .val (.ref e), .val (.ref m), .unset, .unset] at_209 rfl rfl rfl ?_
  refine wkP.aload 213 at_211 rfl rfl rfl ?_
  refine wkP.ifnonnullT 218 at_213 (by decide) rfl ?_
  refine wkP.aload 220 at_218 rfl rfl rfl ?_
  refine wkP.callV 223 (M_len l Z a0 g _ m d [c0, c1, 32, 105, 115, 32, 114, 101, 113, 117, 105, 114, 101, 100] F) [] [] 0 g.2.1 F.exa (wkNFs (w61 g.1)) (w205 g.1) (w59 g.1) (w61 g.1) (w60 g.1) (w3 g.1) (w62 g.1) (by decide) at_220 (lenOf pd22 rfl) rfl rfl rfl (by simp) (Nat.le_of_eq rfl) (by decide) (by decide) (by decide) (by decide) rfl ?_
  rintro v349 _ o349 ⟨rfl, rfl, rfl⟩ K349
  refine wkP.iload 225 at_223 rfl rfl ?_
  refine wkP.bipush 227 (12 : Int32) at_225 rfl rfl ?_
  refine wkP.iadd 228 (14 : Int32) at_227 (by decide) rfl ?_
  refine wkP.icmpT 233 at_228 (show (14 : Int32) = (14 : Int32) from (by decide)) (by decide) (by decide) ?_
  refine wkP.iload 235 at_233 rfl rfl ?_
  refine wkP.iconst 236 (1 : Int32) at_235 rfl rfl ?_
  refine wkP.icmpF 239 at_236 (show ¬ ((2 : Int32) < (1 : Int32)) from (by decide)) rfl ?_
  refine wkP.aload 241 at_239 rfl rfl rfl ?_
  refine wkP.iconst 242 (0 : Int32) at_241 rfl rfl ?_
  refine wkP.callV 245 (M_chAt l Z a0 g _ m d [c0, c1, 32, 105, 115, 32, 114, 101, 113, 117, 105, 114, 101, 100] F 0 c0 rfl (F.ch c0 (by simp))) [(.int (0 : Int32))] [] 0 g.2.1 F.exa (wkNFs (w209 g.1)) (w206 g.1) (w207 g.1) (w209 g.1) (w208 g.1) (w3 g.1) (w210 g.1) (by decide) at_242 (lenOf pd33 rfl) rfl rfl rfl (by simp) (Nat.le_of_eq rfl) (by decide) (by decide) (by decide) (by decide) rfl ?_
  rintro v350 _ o350 ⟨rfl, rfl, rfl⟩ K350
  refine wkP.iload 247 at_245 rfl rfl ?_
  refine wkP.icmpF 250 at_247 (show ¬ (¬ c0 = c0) from (fun q => q rfl)) rfl ?_
  refine wkP.iload 252 at_250 rfl rfl ?_
  refine wkP.iconst 253 (2 : Int32) at_252 rfl rfl ?_
  refine wkP.icmpF 256 at_253 (show ¬ ((2 : Int32) < (2 : Int32)) from (by decide)) rfl ?_
  refine wkP.aload 258 at_256 rfl rfl rfl ?_
  refine wkP.iconst 259 (1 : Int32) at_258 rfl rfl ?_
  refine wkP.callV 262 (M_chAt l Z a0 g _ m d [c0, c1, 32, 105, 115, 32, 114, 101, 113, 117, 105, 114, 101, 100] F 1 c1 rfl (F.ch c1 (by simp))) [(.int (1 : Int32))] [] 0 g.2.1 F.exa (wkNFs (w209 g.1)) (w206 g.1) (w207 g.1) (w209 g.1) (w208 g.1) (w3 g.1) (w210 g.1) (by decide) at_259 (lenOf pd33 rfl) rfl rfl rfl (by simp) (Nat.le_of_eq rfl) (by decide) (by decide) (by decide) (by decide) rfl ?_
  rintro v351 _ o351 ⟨rfl, rfl, rfl⟩ K351
  refine wkP.iload 264 at_262 rfl rfl ?_
  refine wkP.icmpF 267 at_264 (show ¬ (¬ c1 = c1) from (fun q => q rfl)) rfl ?_
  refine wkP.iload 269 at_267 rfl rfl ?_
  refine wkP.iconst 270 (3 : Int32) at_269 rfl rfl ?_
  refine wkP.icmpT 284 at_270 (show (2 : Int32) < (3 : Int32) from (by decide)) (by decide) (by decide) ?_
  refine wkP.iload 286 at_284 rfl rfl ?_
  refine wkP.iconst 287 (4 : Int32) at_286 rfl rfl ?_
  refine wkP.icmpT 301 at_287 (show (2 : Int32) < (4 : Int32) from (by decide)) (by decide) (by decide) ?_
  refine wkP.iconst 302 (1 : Int32) at_301 rfl rfl ?_
  refine wkP.goto 306 at_302 (by decide) (by decide) ?_
  refine wkP.istore 308 #[.val (.int i0), .val (.int i1), .val (.int i2), .val (.int i3), .val (.int n), .val (.int c0), .val (.int c1), .val (.int c2), .val (.ref s), .val (.int (2 : Int32)), .val (.int c0), .val (.int c1), .val (.int c2), .val (.int (120 : Int32)), .val (.ref e), .val (.ref m), .val (.int (1 : Int32)), .unset] at_306 rfl rfl ?_
  refine wkP.aload 310 at_308 rfl rfl rfl ?_
  refine wkP.iload 312 at_310 rfl rfl ?_
  refine wkP.callV 315 (M_chAt l Z a0 g _ m d [c0, c1, 32, 105, 115, 32, 114, 101, 113, 117, 105, 114, 101, 100] F 2 (32 : Int32) rfl (F.ch (32 : Int32) (by simp))) [(.int (2 : Int32))] [] 0 g.2.1 F.exa (wkNFs (w209 g.1)) (w206 g.1) (w207 g.1) (w209 g.1) (w208 g.1) (w3 g.1) (w210 g.1) (by decide) at_312 (lenOf pd33 rfl) rfl rfl rfl (by simp) (Nat.le_of_eq rfl) (by decide) (by decide) (by decide) (by decide) rfl ?_
  rintro v352 _ o352 ⟨rfl, rfl, rfl⟩ K352
  refine wkP.bipush 317 (32 : Int32) at_315 rfl rfl ?_
  refine wkP.icmpF 320 at_317 (show ¬ (¬ (32 : Int32) = (32 : Int32)) from (by decide)) rfl ?_
  refine wkP.aload 322 at_320 rfl rfl rfl ?_
  refine wkP.iload 324 at_322 rfl rfl ?_
  refine wkP.iconst 325 (1 : Int32) at_324 rfl rfl ?_
  refine wkP.iadd 326 (3 : Int32) at_325 (by decide) rfl ?_
  refine wkP.callV 329 (M_chAt l Z a0 g _ m d [c0, c1, 32, 105, 115, 32, 114, 101, 113, 117, 105, 114, 101, 100] F 3 (105 : Int32) rfl (F.ch (105 : Int32) (by simp))) [(.int (3 : Int32))] [] 0 g.2.1 F.exa (wkNFs (w209 g.1)) (w206 g.1) (w207 g.1) (w209 g.1) (w208 g.1) (w3 g.1) (w210 g.1) (by decide) at_326 (lenOf pd33 rfl) rfl rfl rfl (by simp) (Nat.le_of_eq rfl) (by decide) (by decide) (by decide) (by decide) rfl ?_
  rintro v353 _ o353 ⟨rfl, rfl, rfl⟩ K353
  refine wkP.bipush 331 (105 : Int32) at_329 rfl rfl ?_
  refine wkP.icmpF 334 at_331 (show ¬ (¬ (105 : Int32) = (105 : Int32)) from (by decide)) rfl ?_
  refine wkP.aload 336 at_334 rfl rfl rfl ?_
  refine wkP.iload 338 at_336 rfl rfl ?_
  refine wkP.iconst 339 (2 : Int32) at_338 rfl rfl ?_
  refine wkP.iadd 340 (4 : Int32) at_339 (by decide) rfl ?_
  refine wkP.callV 343 (M_chAt l Z a0 g _ m d [c0, c1, 32, 105, 115, 32, 114, 101, 113, 117, 105, 114, 101, 100] F 4 (115 : Int32) rfl (F.ch (115 : Int32) (by simp))) [(.int (4 : Int32))] [] 0 g.2.1 F.exa (wkNFs (w209 g.1)) (w206 g.1) (w207 g.1) (w209 g.1) (w208 g.1) (w3 g.1) (w210 g.1) (by decide) at_340 (lenOf pd33 rfl) rfl rfl rfl (by simp) (Nat.le_of_eq rfl) (by decide) (by decide) (by decide) (by decide) rfl ?_
  rintro v354 _ o354 ⟨rfl, rfl, rfl⟩ K354
  refine wkP.bipush 345 (115 : Int32) at_343 rfl rfl ?_
  refine wkP.icmpF 348 at_345 (show ¬ (¬ (115 : Int32) = (115 : Int32)) from (by decide)) rfl ?_
  refine wkP.aload 350 at_348 rfl rfl rfl ?_
  refine wkP.iload 352 at_350 rfl rfl ?_
  refine wkP.iconst 353 (3 : Int32) at_352 rfl rfl ?_
  refine wkP.iadd 354 (5 : Int32) at_353 (by decide) rfl ?_
  refine wkP.callV 357 (M_chAt l Z a0 g _ m d [c0, c1, 32, 105, 115, 32, 114, 101, 113, 117, 105, 114, 101, 100] F 5 (32 : Int32) rfl (F.ch (32 : Int32) (by simp))) [(.int (5 : Int32))] [] 0 g.2.1 F.exa (wkNFs (w209 g.1)) (w206 g.1) (w207 g.1) (w209 g.1) (w208 g.1) (w3 g.1) (w210 g.1) (by decide) at_354 (lenOf pd33 rfl) rfl rfl rfl (by simp) (Nat.le_of_eq rfl) (by decide) (by decide) (by decide) (by decide) rfl ?_
  rintro v355 _ o355 ⟨rfl, rfl, rfl⟩ K355
  refine wkP.bipush 359 (32 : Int32) at_357 rfl rfl ?_
  refine wkP.icmpF 362 at_359 (show ¬ (¬ (32 : Int32) = (32 : Int32)) from (by decide)) rfl ?_
  refine wkP.aload 364 at_362 rfl rfl rfl ?_
  refine wkP.iload 366 at_364 rfl rfl ?_
  refine wkP.iconst 367 (4 : Int32) at_366 rfl rfl ?_
  refine wkP.iadd 368 (6 : Int32) at_367 (by decide) rfl ?_
  refine wkP.callV 371 (M_chAt l Z a0 g _ m d [c0, c1, 32, 105, 115, 32, 114, 101, 113, 117, 105, 114, 101, 100] F 6 (114 : Int32) rfl (F.ch (114 : Int32) (by simp))) [(.int (6 : Int32))] [] 0 g.2.1 F.exa (wkNFs (w209 g.1)) (w206 g.1) (w207 g.1) (w209 g.1) (w208 g.1) (w3 g.1) (w210 g.1) (by decide) at_368 (lenOf pd33 rfl) rfl rfl rfl (by simp) (Nat.le_of_eq rfl) (by decide) (by decide) (by decide) (by decide) rfl ?_
  rintro v356 _ o356 ⟨rfl, rfl, rfl⟩ K356
  refine wkP.bipush 373 (114 : Int32) at_371 rfl rfl ?_
  refine wkP.icmpF 376 at_373 (show ¬ (¬ (114 : Int32) = (114 : Int32)) from (by decide)) rfl ?_
  refine wkP.aload 378 at_376 rfl rfl rfl ?_
  refine wkP.iload 380 at_378 rfl rfl ?_
  refine wkP.iconst 381 (5 : Int32) at_380 rfl rfl ?_
  refine wkP.iadd 382 (7 : Int32) at_381 (by decide) rfl ?_
  refine wkP.callV 385 (M_chAt l Z a0 g _ m d [c0, c1, 32, 105, 115, 32, 114, 101, 113, 117, 105, 114, 101, 100] F 7 (101 : Int32) rfl (F.ch (101 : Int32) (by simp))) [(.int (7 : Int32))] [] 0 g.2.1 F.exa (wkNFs (w209 g.1)) (w206 g.1) (w207 g.1) (w209 g.1) (w208 g.1) (w3 g.1) (w210 g.1) (by decide) at_382 (lenOf pd33 rfl) rfl rfl rfl (by simp) (Nat.le_of_eq rfl) (by decide) (by decide) (by decide) (by decide) rfl ?_
  rintro v357 _ o357 ⟨rfl, rfl, rfl⟩ K357
  refine wkP.bipush 387 (101 : Int32) at_385 rfl rfl ?_
  refine wkP.icmpF 390 at_387 (show ¬ (¬ (101 : Int32) = (101 : Int32)) from (by decide)) rfl ?_
  refine wkP.aload 392 at_390 rfl rfl rfl ?_
  refine wkP.iload 394 at_392 rfl rfl ?_
  refine wkP.bipush 396 (6 : Int32) at_394 rfl rfl ?_
  refine wkP.iadd 397 (8 : Int32) at_396 (by decide) rfl ?_
  refine wkP.callV 400 (M_chAt l Z a0 g _ m d [c0, c1, 32, 105, 115, 32, 114, 101, 113, 117, 105, 114, 101, 100] F 8 (113 : Int32) rfl (F.ch (113 : Int32) (by simp))) [(.int (8 : Int32))] [] 0 g.2.1 F.exa (wkNFs (w209 g.1)) (w206 g.1) (w207 g.1) (w209 g.1) (w208 g.1) (w3 g.1) (w210 g.1) (by decide) at_397 (lenOf pd33 rfl) rfl rfl rfl (by simp) (Nat.le_of_eq rfl) (by decide) (by decide) (by decide) (by decide) rfl ?_
  rintro v358 _ o358 ⟨rfl, rfl, rfl⟩ K358
  refine wkP.bipush 402 (113 : Int32) at_400 rfl rfl ?_
  refine wkP.icmpF 405 at_402 (show ¬ (¬ (113 : Int32) = (113 : Int32)) from (by decide)) rfl ?_
  refine wkP.aload 407 at_405 rfl rfl rfl ?_
  refine wkP.iload 409 at_407 rfl rfl ?_
  refine wkP.bipush 411 (7 : Int32) at_409 rfl rfl ?_
  refine wkP.iadd 412 (9 : Int32) at_411 (by decide) rfl ?_
  refine wkP.callV 415 (M_chAt l Z a0 g _ m d [c0, c1, 32, 105, 115, 32, 114, 101, 113, 117, 105, 114, 101, 100] F 9 (117 : Int32) rfl (F.ch (117 : Int32) (by simp))) [(.int (9 : Int32))] [] 0 g.2.1 F.exa (wkNFs (w209 g.1)) (w206 g.1) (w207 g.1) (w209 g.1) (w208 g.1) (w3 g.1) (w210 g.1) (by decide) at_412 (lenOf pd33 rfl) rfl rfl rfl (by simp) (Nat.le_of_eq rfl) (by decide) (by decide) (by decide) (by decide) rfl ?_
  rintro v359 _ o359 ⟨rfl, rfl, rfl⟩ K359
  refine wkP.bipush 417 (117 : Int32) at_415 rfl rfl ?_
  refine wkP.icmpF 420 at_417 (show ¬ (¬ (117 : Int32) = (117 : Int32)) from (by decide)) rfl ?_
  refine wkP.aload 422 at_420 rfl rfl rfl ?_
  refine wkP.iload 424 at_422 rfl rfl ?_
  refine wkP.bipush 426 (8 : Int32) at_424 rfl rfl ?_
  refine wkP.iadd 427 (10 : Int32) at_426 (by decide) rfl ?_
  refine wkP.callV 430 (M_chAt l Z a0 g _ m d [c0, c1, 32, 105, 115, 32, 114, 101, 113, 117, 105, 114, 101, 100] F 10 (105 : Int32) rfl (F.ch (105 : Int32) (by simp))) [(.int (10 : Int32))] [] 0 g.2.1 F.exa (wkNFs (w209 g.1)) (w206 g.1) (w207 g.1) (w209 g.1) (w208 g.1) (w3 g.1) (w210 g.1) (by decide) at_427 (lenOf pd33 rfl) rfl rfl rfl (by simp) (Nat.le_of_eq rfl) (by decide) (by decide) (by decide) (by decide) rfl ?_
  rintro v360 _ o360 ⟨rfl, rfl, rfl⟩ K360
  refine wkP.bipush 432 (105 : Int32) at_430 rfl rfl ?_
  refine wkP.icmpF 435 at_432 (show ¬ (¬ (105 : Int32) = (105 : Int32)) from (by decide)) rfl ?_
  refine wkP.aload 437 at_435 rfl rfl rfl ?_
  refine wkP.iload 439 at_437 rfl rfl ?_
  refine wkP.bipush 441 (9 : Int32) at_439 rfl rfl ?_
  refine wkP.iadd 442 (11 : Int32) at_441 (by decide) rfl ?_
  refine wkP.callV 445 (M_chAt l Z a0 g _ m d [c0, c1, 32, 105, 115, 32, 114, 101, 113, 117, 105, 114, 101, 100] F 11 (114 : Int32) rfl (F.ch (114 : Int32) (by simp))) [(.int (11 : Int32))] [] 0 g.2.1 F.exa (wkNFs (w209 g.1)) (w206 g.1) (w207 g.1) (w209 g.1) (w208 g.1) (w3 g.1) (w210 g.1) (by decide) at_442 (lenOf pd33 rfl) rfl rfl rfl (by simp) (Nat.le_of_eq rfl) (by decide) (by decide) (by decide) (by decide) rfl ?_
  rintro v361 _ o361 ⟨rfl, rfl, rfl⟩ K361
  refine wkP.bipush 447 (114 : Int32) at_445 rfl rfl ?_
  refine wkP.icmpF 450 at_447 (show ¬ (¬ (114 : Int32) = (114 : Int32)) from (by decide)) rfl ?_
  refine wkP.aload 452 at_450 rfl rfl rfl ?_
  refine wkP.iload 454 at_452 rfl rfl ?_
  refine wkP.bipush 456 (10 : Int32) at_454 rfl rfl ?_
  refine wkP.iadd 457 (12 : Int32) at_456 (by decide) rfl ?_
  refine wkP.callV 460 (M_chAt l Z a0 g _ m d [c0, c1, 32, 105, 115, 32, 114, 101, 113, 117, 105, 114, 101, 100] F 12 (101 : Int32) rfl (F.ch (101 : Int32) (by simp))) [(.int (12 : Int32))] [] 0 g.2.1 F.exa (wkNFs (w209 g.1)) (w206 g.1) (w207 g.1) (w209 g.1) (w208 g.1) (w3 g.1) (w210 g.1) (by decide) at_457 (lenOf pd33 rfl) rfl rfl rfl (by simp) (Nat.le_of_eq rfl) (by decide) (by decide) (by decide) (by decide) rfl ?_
  rintro v362 _ o362 ⟨rfl, rfl, rfl⟩ K362
  refine wkP.bipush 462 (101 : Int32) at_460 rfl rfl ?_
  refine wkP.icmpF 465 at_462 (show ¬ (¬ (101 : Int32) = (101 : Int32)) from (by decide)) rfl ?_
  refine wkP.aload 467 at_465 rfl rfl rfl ?_
  refine wkP.iload 469 at_467 rfl rfl ?_
  refine wkP.bipush 471 (11 : Int32) at_469 rfl rfl ?_
  refine wkP.iadd 472 (13 : Int32) at_471 (by decide) rfl ?_
  refine wkP.callV 475 (M_chAt l Z a0 g _ m d [c0, c1, 32, 105, 115, 32, 114, 101, 113, 117, 105, 114, 101, 100] F 13 (100 : Int32) rfl (F.ch (100 : Int32) (by simp))) [(.int (13 : Int32))] [] 0 g.2.1 F.exa (wkNFs (w209 g.1)) (w206 g.1) (w207 g.1) (w209 g.1) (w208 g.1) (w3 g.1) (w210 g.1) (by decide) at_472 (lenOf pd33 rfl) rfl rfl rfl (by simp) (Nat.le_of_eq rfl) (by decide) (by decide) (by decide) (by decide) rfl ?_
  rintro v363 _ o363 ⟨rfl, rfl, rfl⟩ K363
  refine wkP.bipush 477 (100 : Int32) at_475 rfl rfl ?_
  refine wkP.icmpF 480 at_477 (show ¬ (¬ (100 : Int32) = (100 : Int32)) from (by decide)) rfl ?_
  refine wkP.iconst 481 (1 : Int32) at_480 rfl rfl ?_
  refine wkP.goto 485 at_481 (by decide) (by decide) ?_
  refine wkP.istore 487 #[.val (.int i0), .val (.int i1), .val (.int i2), .val (.int i3), .val (.int n), .val (.int c0), .val (.int c1), .val (.int c2), .val (.ref s), .val (.int (2 : Int32)), .val (.int c0), .val (.int c1), .val (.int c2), .val (.int (120 : Int32)), .val (.ref e), .val (.ref m), .val (.int (1 : Int32)), .val (.int (1 : Int32))] at_485 rfl rfl ?_
  refine wkP.iload 489 at_487 rfl rfl ?_
  refine wkP.ifF 492 at_489 (show ¬ ((1 : Int32) = (0 : Int32)) from (by decide)) rfl ?_
  refine wkP.iload 494 at_492 rfl rfl ?_
  refine wkP.ifF 497 at_494 (show ¬ ((1 : Int32) = (0 : Int32)) from (by decide)) rfl ?_
  refine wkP.iconst 498 (1 : Int32) at_497 rfl rfl ?_
  refine wkP.goto 502 at_498 (by decide) (by decide) ?_
  exact wkP.retI .boolean [] g.2.1 at_502 rfl (by simp) rfl (by decide) (by decide) (by simp) rfl
set_option maxRecDepth 65536 in
set_option maxHeartbeats 4000000 in
theorem T_law3 (l : Launch) (Z : State) (a0 : Array Value) (g : G Z a0) (hs h : Heap) (ws : List Addr) (i0 i1 i2 i3 n c0 c1 c2 : Int32) (s e m d : Addr) (EE : Exa Z h e "com/example/sieve_for_sparql/sieveforsparql/InputException") (FM : Fld Z h e "java/lang/Throwable" "detailMessage" "Ljava/lang/String;" (.ref m)) (F : St Z h m d [c0, c1, c2, 32, 105, 115, 32, 114, 101, 113, 117, 105, 114, 101, 100]) : wkP l Z blaw room_1 hs [] (fun v h' os => v = some (.int 1)) ws h 30 6000 195 #[.val (.int i0), .val (.int i1), .val (.int i2), .val (.int i3), .val (.int n), .val (.int c0), .val (.int c1), .val (.int c2), .val (.ref s), .val (.int (3 : Int32)), .val (.int c0), .val (.int c1), .val (.int c2), .val (.int (120 : Int32)), .unset, .unset, .unset, .unset] [(.ref e)] := by
  refine wkP.astore 197 #[.val (.int i0), .val (.int i1), .val (.int i2), .val (.int i3), .val (.int n), .val (.int c0), .val (.int c1), .val (.int c2), .val (.ref s), .val (.int (3 : Int32)), .val (.int c0), .val (.int c1), .val (.int c2), .val (.int (120 : Int32)), .val (.ref e), .unset, .unset, .unset] at_195 rfl rfl rfl ?_
  refine wkP.aload 199 at_197 rfl rfl rfl ?_
  refine wkP.ifnonnullT 204 at_199 (by decide) rfl ?_
  refine wkP.aload 206 at_204 rfl rfl rfl ?_
  refine wkP.callW 209 (M_gm l Z a0 g _ e m FM) [] [] 0 g.2.1 EE (w199 g.1) (w200 g.1) (w201 g.1) (by decide) (w203 g.1) (w202 g.1) (w160 g.1) (w204 g.1) at_206 (lenOf pd32 rfl) rfl rfl rfl (by simp) (Nat.le_of_eq rfl) (by decide) (by decide) (by decide) (by decide) rfl ?_
  rintro v364 _ o364 ⟨rfl, rfl, rfl⟩ K364
  refine wkP.astore 211 #[.val (.int i0), .val (.int i1), .val (.int i2), .val (.int i3), .val (.int n), .val (.int c0), .val (.int c1), .val (.int c2), .val (.ref s), .val (.int (3 : Int32)), .val (.int c0), .val (.int c1), .val (.int c2), .val (.int (120 : Int32)), .val (.ref e), .val (.ref m), .unset, .unset] at_209 rfl rfl rfl ?_
  refine wkP.aload 213 at_211 rfl rfl rfl ?_
  refine wkP.ifnonnullT 218 at_213 (by decide) rfl ?_
  refine wkP.aload 220 at_218 rfl rfl rfl ?_
  refine wkP.callV 223 (M_len l Z a0 g _ m d [c0, c1, c2, 32, 105, 115, 32, 114, 101, 113, 117, 105, 114, 101, 100] F) [] [] 0 g.2.1 F.exa (wkNFs (w61 g.1)) (w205 g.1) (w59 g.1) (w61 g.1) (w60 g.1) (w3 g.1) (w62 g.1) (by decide) at_220 (lenOf pd22 rfl) rfl rfl rfl (by simp) (Nat.le_of_eq rfl) (by decide) (by decide) (by decide) (by decide) rfl ?_
  rintro v365 _ o365 ⟨rfl, rfl, rfl⟩ K365
  refine wkP.iload 225 at_223 rfl rfl ?_
  refine wkP.bipush 227 (12 : Int32) at_225 rfl rfl ?_
  refine wkP.iadd 228 (15 : Int32) at_227 (by decide) rfl ?_
  refine wkP.icmpT 233 at_228 (show (15 : Int32) = (15 : Int32) from (by decide)) (by decide) (by decide) ?_
  refine wkP.iload 235 at_233 rfl rfl ?_
  refine wkP.iconst 236 (1 : Int32) at_235 rfl rfl ?_
  refine wkP.icmpF 239 at_236 (show ¬ ((3 : Int32) < (1 : Int32)) from (by decide)) rfl ?_
  refine wkP.aload 241 at_239 rfl rfl rfl ?_
  refine wkP.iconst 242 (0 : Int32) at_241 rfl rfl ?_
  refine wkP.callV 245 (M_chAt l Z a0 g _ m d [c0, c1, c2, 32, 105, 115, 32, 114, 101, 113, 117, 105, 114, 101, 100] F 0 c0 rfl (F.ch c0 (by simp))) [(.int (0 : Int32))] [] 0 g.2.1 F.exa (wkNFs (w209 g.1)) (w206 g.1) (w207 g.1) (w209 g.1) (w208 g.1) (w3 g.1) (w210 g.1) (by decide) at_242 (lenOf pd33 rfl) rfl rfl rfl (by simp) (Nat.le_of_eq rfl) (by decide) (by decide) (by decide) (by decide) rfl ?_
  rintro v366 _ o366 ⟨rfl, rfl, rfl⟩ K366
  refine wkP.iload 247 at_245 rfl rfl ?_
  refine wkP.icmpF 250 at_247 (show ¬ (¬ c0 = c0) from (fun q => q rfl)) rfl ?_
  refine wkP.iload 252 at_250 rfl rfl ?_
  refine wkP.iconst 253 (2 : Int32) at_252 rfl rfl ?_
  refine wkP.icmpF 256 at_253 (show ¬ ((3 : Int32) < (2 : Int32)) from (by decide)) rfl ?_
  refine wkP.aload 258 at_256 rfl rfl rfl ?_
  refine wkP.iconst 259 (1 : Int32) at_258 rfl rfl ?_
  refine wkP.callV 262 (M_chAt l Z a0 g _ m d [c0, c1, c2, 32, 105, 115, 32, 114, 101, 113, 117, 105, 114, 101, 100] F 1 c1 rfl (F.ch c1 (by simp))) [(.int (1 : Int32))] [] 0 g.2.1 F.exa (wkNFs (w209 g.1)) (w206 g.1) (w207 g.1) (w209 g.1) (w208 g.1) (w3 g.1) (w210 g.1) (by decide) at_259 (lenOf pd33 rfl) rfl rfl rfl (by simp) (Nat.le_of_eq rfl) (by decide) (by decide) (by decide) (by decide) rfl ?_
  rintro v367 _ o367 ⟨rfl, rfl, rfl⟩ K367
  refine wkP.iload 264 at_262 rfl rfl ?_
  refine wkP.icmpF 267 at_264 (show ¬ (¬ c1 = c1) from (fun q => q rfl)) rfl ?_
  refine wkP.iload 269 at_267 rfl rfl ?_
  refine wkP.iconst 270 (3 : Int32) at_269 rfl rfl ?_
  refine wkP.icmpF 273 at_270 (show ¬ ((3 : Int32) < (3 : Int32)) from (by decide)) rfl ?_
  refine wkP.aload 275 at_273 rfl rfl rfl ?_
  refine wkP.iconst 276 (2 : Int32) at_275 rfl rfl ?_
  refine wkP.callV 279 (M_chAt l Z a0 g _ m d [c0, c1, c2, 32, 105, 115, 32, 114, 101, 113, 117, 105, 114, 101, 100] F 2 c2 rfl (F.ch c2 (by simp))) [(.int (2 : Int32))] [] 0 g.2.1 F.exa (wkNFs (w209 g.1)) (w206 g.1) (w207 g.1) (w209 g.1) (w208 g.1) (w3 g.1) (w210 g.1) (by decide) at_276 (lenOf pd33 rfl) rfl rfl rfl (by simp) (Nat.le_of_eq rfl) (by decide) (by decide) (by decide) (by decide) rfl ?_
  rintro v368 _ o368 ⟨rfl, rfl, rfl⟩ K368
  refine wkP.iload 281 at_279 rfl rfl ?_
  refine wkP.icmpF 284 at_281 (show ¬ (¬ c2 = c2) from (fun q => q rfl)) rfl ?_
  refine wkP.iload 286 at_284 rfl rfl ?_
  refine wkP.iconst 287 (4 : Int32) at_286 rfl rfl ?_
  refine wkP.icmpT 301 at_287 (show (3 : Int32) < (4 : Int32) from (by decide)) (by decide) (by decide) ?_
  refine wkP.iconst 302 (1 : Int32) at_301 rfl rfl ?_
  refine wkP.goto 306 at_302 (by decide) (by decide) ?_
  refine wkP.istore 308 #[.val (.int i0), .val (.int i1), .val (.int i2), .val (.int i3), .val (.int n), .val (.int c0), .val (.int c1), .val (.int c2), .val (.ref s), .val (.int (3 : Int32)), .val (.int c0), .val (.int c1), .val (.int c2), .val (.int (120 : Int32)), .val (.ref e), .val (.ref m), .val (.int (1 : Int32)), .unset] at_306 rfl rfl ?_
  refine wkP.aload 310 at_308 rfl rfl rfl ?_
  refine wkP.iload 312 at_310 rfl rfl ?_
  refine wkP.callV 315 (M_chAt l Z a0 g _ m d [c0, c1, c2, 32, 105, 115, 32, 114, 101, 113, 117, 105, 114, 101, 100] F 3 (32 : Int32) rfl (F.ch (32 : Int32) (by simp))) [(.int (3 : Int32))] [] 0 g.2.1 F.exa (wkNFs (w209 g.1)) (w206 g.1) (w207 g.1) (w209 g.1) (w208 g.1) (w3 g.1) (w210 g.1) (by decide) at_312 (lenOf pd33 rfl) rfl rfl rfl (by simp) (Nat.le_of_eq rfl) (by decide) (by decide) (by decide) (by decide) rfl ?_
  rintro v369 _ o369 ⟨rfl, rfl, rfl⟩ K369
  refine wkP.bipush 317 (32 : Int32) at_315 rfl rfl ?_
  refine wkP.icmpF 320 at_317 (show ¬ (¬ (32 : Int32) = (32 : Int32)) from (by decide)) rfl ?_
  refine wkP.aload 322 at_320 rfl rfl rfl ?_
  refine wkP.iload 324 at_322 rfl rfl ?_
  refine wkP.iconst 325 (1 : Int32) at_324 rfl rfl ?_
  refine wkP.iadd 326 (4 : Int32) at_325 (by decide) rfl ?_
  refine wkP.callV 329 (M_chAt l Z a0 g _ m d [c0, c1, c2, 32, 105, 115, 32, 114, 101, 113, 117, 105, 114, 101, 100] F 4 (105 : Int32) rfl (F.ch (105 : Int32) (by simp))) [(.int (4 : Int32))] [] 0 g.2.1 F.exa (wkNFs (w209 g.1)) (w206 g.1) (w207 g.1) (w209 g.1) (w208 g.1) (w3 g.1) (w210 g.1) (by decide) at_326 (lenOf pd33 rfl) rfl rfl rfl (by simp) (Nat.le_of_eq rfl) (by decide) (by decide) (by decide) (by decide) rfl ?_
  rintro v370 _ o370 ⟨rfl, rfl, rfl⟩ K370
  refine wkP.bipush 331 (105 : Int32) at_329 rfl rfl ?_
  refine wkP.icmpF 334 at_331 (show ¬ (¬ (105 : Int32) = (105 : Int32)) from (by decide)) rfl ?_
  refine wkP.aload 336 at_334 rfl rfl rfl ?_
  refine wkP.iload 338 at_336 rfl rfl ?_
  refine wkP.iconst 339 (2 : Int32) at_338 rfl rfl ?_
  refine wkP.iadd 340 (5 : Int32) at_339 (by decide) rfl ?_
  refine wkP.callV 343 (M_chAt l Z a0 g _ m d [c0, c1, c2, 32, 105, 115, 32, 114, 101, 113, 117, 105, 114, 101, 100] F 5 (115 : Int32) rfl (F.ch (115 : Int32) (by simp))) [(.int (5 : Int32))] [] 0 g.2.1 F.exa (wkNFs (w209 g.1)) (w206 g.1) (w207 g.1) (w209 g.1) (w208 g.1) (w3 g.1) (w210 g.1) (by decide) at_340 (lenOf pd33 rfl) rfl rfl rfl (by simp) (Nat.le_of_eq rfl) (by decide) (by decide) (by decide) (by decide) rfl ?_
  rintro v371 _ o371 ⟨rfl, rfl, rfl⟩ K371
  refine wkP.bipush 345 (115 : Int32) at_343 rfl rfl ?_
  refine wkP.icmpF 348 at_345 (show ¬ (¬ (115 : Int32) = (115 : Int32)) from (by decide)) rfl ?_
  refine wkP.aload 350 at_348 rfl rfl rfl ?_
  refine wkP.iload 352 at_350 rfl rfl ?_
  refine wkP.iconst 353 (3 : Int32) at_352 rfl rfl ?_
  refine wkP.iadd 354 (6 : Int32) at_353 (by decide) rfl ?_
  refine wkP.callV 357 (M_chAt l Z a0 g _ m d [c0, c1, c2, 32, 105, 115, 32, 114, 101, 113, 117, 105, 114, 101, 100] F 6 (32 : Int32) rfl (F.ch (32 : Int32) (by simp))) [(.int (6 : Int32))] [] 0 g.2.1 F.exa (wkNFs (w209 g.1)) (w206 g.1) (w207 g.1) (w209 g.1) (w208 g.1) (w3 g.1) (w210 g.1) (by decide) at_354 (lenOf pd33 rfl) rfl rfl rfl (by simp) (Nat.le_of_eq rfl) (by decide) (by decide) (by decide) (by decide) rfl ?_
  rintro v372 _ o372 ⟨rfl, rfl, rfl⟩ K372
  refine wkP.bipush 359 (32 : Int32) at_357 rfl rfl ?_
  refine wkP.icmpF 362 at_359 (show ¬ (¬ (32 : Int32) = (32 : Int32)) from (by decide)) rfl ?_
  refine wkP.aload 364 at_362 rfl rfl rfl ?_
  refine wkP.iload 366 at_364 rfl rfl ?_
  refine wkP.iconst 367 (4 : Int32) at_366 rfl rfl ?_
  refine wkP.iadd 368 (7 : Int32) at_367 (by decide) rfl ?_
  refine wkP.callV 371 (M_chAt l Z a0 g _ m d [c0, c1, c2, 32, 105, 115, 32, 114, 101, 113, 117, 105, 114, 101, 100] F 7 (114 : Int32) rfl (F.ch (114 : Int32) (by simp))) [(.int (7 : Int32))] [] 0 g.2.1 F.exa (wkNFs (w209 g.1)) (w206 g.1) (w207 g.1) (w209 g.1) (w208 g.1) (w3 g.1) (w210 g.1) (by decide) at_368 (lenOf pd33 rfl) rfl rfl rfl (by simp) (Nat.le_of_eq rfl) (by decide) (by decide) (by decide) (by decide) rfl ?_
  rintro v373 _ o373 ⟨rfl, rfl, rfl⟩ K373
  refine wkP.bipush 373 (114 : Int32) at_371 rfl rfl ?_
  refine wkP.icmpF 376 at_373 (show ¬ (¬ (114 : Int32) = (114 : Int32)) from (by decide)) rfl ?_
  refine wkP.aload 378 at_376 rfl rfl rfl ?_
  refine wkP.iload 380 at_378 rfl rfl ?_
  refine wkP.iconst 381 (5 : Int32) at_380 rfl rfl ?_
  refine wkP.iadd 382 (8 : Int32) at_381 (by decide) rfl ?_
  refine wkP.callV 385 (M_chAt l Z a0 g _ m d [c0, c1, c2, 32, 105, 115, 32, 114, 101, 113, 117, 105, 114, 101, 100] F 8 (101 : Int32) rfl (F.ch (101 : Int32) (by simp))) [(.int (8 : Int32))] [] 0 g.2.1 F.exa (wkNFs (w209 g.1)) (w206 g.1) (w207 g.1) (w209 g.1) (w208 g.1) (w3 g.1) (w210 g.1) (by decide) at_382 (lenOf pd33 rfl) rfl rfl rfl (by simp) (Nat.le_of_eq rfl) (by decide) (by decide) (by decide) (by decide) rfl ?_
  rintro v374 _ o374 ⟨rfl, rfl, rfl⟩ K374
  refine wkP.bipush 387 (101 : Int32) at_385 rfl rfl ?_
  refine wkP.icmpF 390 at_387 (show ¬ (¬ (101 : Int32) = (101 : Int32)) from (by decide)) rfl ?_
  refine wkP.aload 392 at_390 rfl rfl rfl ?_
  refine wkP.iload 394 at_392 rfl rfl ?_
  refine wkP.bipush 396 (6 : Int32) at_394 rfl rfl ?_
  refine wkP.iadd 397 (9 : Int32) at_396 (by decide) rfl ?_
  refine wkP.callV 400 (M_chAt l Z a0 g _ m d [c0, c1, c2, 32, 105, 115, 32, 114, 101, 113, 117, 105, 114, 101, 100] F 9 (113 : Int32) rfl (F.ch (113 : Int32) (by simp))) [(.int (9 : Int32))] [] 0 g.2.1 F.exa (wkNFs (w209 g.1)) (w206 g.1) (w207 g.1) (w209 g.1) (w208 g.1) (w3 g.1) (w210 g.1) (by decide) at_397 (lenOf pd33 rfl) rfl rfl rfl (by simp) (Nat.le_of_eq rfl) (by decide) (by decide) (by decide) (by decide) rfl ?_
  rintro v375 _ o375 ⟨rfl, rfl, rfl⟩ K375
  refine wkP.bipush 402 (113 : Int32) at_400 rfl rfl ?_
  refine wkP.icmpF 405 at_402 (show ¬ (¬ (113 : Int32) = (113 : Int32)) from (by decide)) rfl ?_
  refine wkP.aload 407 at_405 rfl rfl rfl ?_
  refine wkP.iload 409 at_407 rfl rfl ?_
  refine wkP.bipush 411 (7 : Int32) at_409 rfl rfl ?_
  refine wkP.iadd 412 (10 : Int32) at_411 (by decide) rfl ?_
  refine wkP.callV 415 (M_chAt l Z a0 g _ m d [c0, c1, c2, 32, 105, 115, 32, 114, 101, 113, 117, 105, 114, 101, 100] F 10 (117 : Int32) rfl (F.ch (117 : Int32) (by simp))) [(.int (10 : Int32))] [] 0 g.2.1 F.exa (wkNFs (w209 g.1)) (w206 g.1) (w207 g.1) (w209 g.1) (w208 g.1) (w3 g.1) (w210 g.1) (by decide) at_412 (lenOf pd33 rfl) rfl rfl rfl (by simp) (Nat.le_of_eq rfl) (by decide) (by decide) (by decide) (by decide) rfl ?_
  rintro v376 _ o376 ⟨rfl, rfl, rfl⟩ K376
  refine wkP.bipush 417 (117 : Int32) at_415 rfl rfl ?_
  refine wkP.icmpF 420 at_417 (show ¬ (¬ (117 : Int32) = (117 : Int32)) from (by decide)) rfl ?_
  refine wkP.aload 422 at_420 rfl rfl rfl ?_
  refine wkP.iload 424 at_422 rfl rfl ?_
  refine wkP.bipush 426 (8 : Int32) at_424 rfl rfl ?_
  refine wkP.iadd 427 (11 : Int32) at_426 (by decide) rfl ?_
  refine wkP.callV 430 (M_chAt l Z a0 g _ m d [c0, c1, c2, 32, 105, 115, 32, 114, 101, 113, 117, 105, 114, 101, 100] F 11 (105 : Int32) rfl (F.ch (105 : Int32) (by simp))) [(.int (11 : Int32))] [] 0 g.2.1 F.exa (wkNFs (w209 g.1)) (w206 g.1) (w207 g.1) (w209 g.1) (w208 g.1) (w3 g.1) (w210 g.1) (by decide) at_427 (lenOf pd33 rfl) rfl rfl rfl (by simp) (Nat.le_of_eq rfl) (by decide) (by decide) (by decide) (by decide) rfl ?_
  rintro v377 _ o377 ⟨rfl, rfl, rfl⟩ K377
  refine wkP.bipush 432 (105 : Int32) at_430 rfl rfl ?_
  refine wkP.icmpF 435 at_432 (show ¬ (¬ (105 : Int32) = (105 : Int32)) from (by decide)) rfl ?_
  refine wkP.aload 437 at_435 rfl rfl rfl ?_
  refine wkP.iload 439 at_437 rfl rfl ?_
  refine wkP.bipush 441 (9 : Int32) at_439 rfl rfl ?_
  refine wkP.iadd 442 (12 : Int32) at_441 (by decide) rfl ?_
  refine wkP.callV 445 (M_chAt l Z a0 g _ m d [c0, c1, c2, 32, 105, 115, 32, 114, 101, 113, 117, 105, 114, 101, 100] F 12 (114 : Int32) rfl (F.ch (114 : Int32) (by simp))) [(.int (12 : Int32))] [] 0 g.2.1 F.exa (wkNFs (w209 g.1)) (w206 g.1) (w207 g.1) (w209 g.1) (w208 g.1) (w3 g.1) (w210 g.1) (by decide) at_442 (lenOf pd33 rfl) rfl rfl rfl (by simp) (Nat.le_of_eq rfl) (by decide) (by decide) (by decide) (by decide) rfl ?_
  rintro v378 _ o378 ⟨rfl, rfl, rfl⟩ K378
  refine wkP.bipush 447 (114 : Int32) at_445 rfl rfl ?_
  refine wkP.icmpF 450 at_447 (show ¬ (¬ (114 : Int32) = (114 : Int32)) from (by decide)) rfl ?_
  refine wkP.aload 452 at_450 rfl rfl rfl ?_
  refine wkP.iload 454 at_452 rfl rfl ?_
  refine wkP.bipush 456 (10 : Int32) at_454 rfl rfl ?_
  refine wkP.iadd 457 (13 : Int32) at_456 (by decide) rfl ?_
  refine wkP.callV 460 (M_chAt l Z a0 g _ m d [c0, c1, c2, 32, 105, 115, 32, 114, 101, 113, 117, 105, 114, 101, 100] F 13 (101 : Int32) rfl (F.ch (101 : Int32) (by simp))) [(.int (13 : Int32))] [] 0 g.2.1 F.exa (wkNFs (w209 g.1)) (w206 g.1) (w207 g.1) (w209 g.1) (w208 g.1) (w3 g.1) (w210 g.1) (by decide) at_457 (lenOf pd33 rfl) rfl rfl rfl (by simp) (Nat.le_of_eq rfl) (by decide) (by decide) (by decide) (by decide) rfl ?_
  rintro v379 _ o379 ⟨rfl, rfl, rfl⟩ K379
  refine wkP.bipush 462 (101 : Int32) at_460 rfl rfl ?_
  refine wkP.icmpF 465 at_462 (show ¬ (¬ (101 : Int32) = (101 : Int32)) from (by decide)) rfl ?_
  refine wkP.aload 467 at_465 rfl rfl rfl ?_
  refine wkP.iload 469 at_467 rfl rfl ?_
  refine wkP.bipush 471 (11 : Int32) at_469 rfl rfl ?_
  refine wkP.iadd 472 (14 : Int32) at_471 (by decide) rfl ?_
  refine wkP.callV 475 (M_chAt l Z a0 g _ m d [c0, c1, c2, 32, 105, 115, 32, 114, 101, 113, 117, 105, 114, 101, 100] F 14 (100 : Int32) rfl (F.ch (100 : Int32) (by simp))) [(.int (14 : Int32))] [] 0 g.2.1 F.exa (wkNFs (w209 g.1)) (w206 g.1) (w207 g.1) (w209 g.1) (w208 g.1) (w3 g.1) (w210 g.1) (by decide) at_472 (lenOf pd33 rfl) rfl rfl rfl (by simp) (Nat.le_of_eq rfl) (by decide) (by decide) (by decide) (by decide) rfl ?_
  rintro v380 _ o380 ⟨rfl, rfl, rfl⟩ K380
  refine wkP.bipush 477 (100 : Int32) at_475 rfl rfl ?_
  refine wkP.icmpF 480 at_477 (show ¬ (¬ (100 : Int32) = (100 : Int32)) from (by decide)) rfl ?_
  refine wkP.iconst 481 (1 : Int32) at_480 rfl rfl ?_
  refine wkP.goto 485 at_481 (by decide) (by decide) ?_
  refine wkP.istore 487 #[.val (.int i0), .val (.int i1), .val (.int i2), .val (.int i3), .val (.int n), .val (.int c0), .val (.int c1), .val (.int c2), .val (.ref s), .val (.int (3 : Int32)), .val (.int c0), .val (.int c1), .val (.int c2), .val (.int (120 : Int32)), .val (.ref e), .val (.ref m), .val (.int (1 : Int32)), .val (.int (1 : Int32))] at_485 rfl rfl ?_
  refine wkP.iload 489 at_487 rfl rfl ?_
  refine wkP.ifF 492 at_489 (show ¬ ((1 : Int32) = (0 : Int32)) from (by decide)) rfl ?_
  refine wkP.iload 494 at_492 rfl rfl ?_
  refine wkP.ifF 497 at_494 (show ¬ ((1 : Int32) = (0 : Int32)) from (by decide)) rfl ?_
  refine wkP.iconst 498 (1 : Int32) at_497 rfl rfl ?_
  refine wkP.goto 502 at_498 (by decide) (by decide) ?_
  exact wkP.retI .boolean [] g.2.1 at_502 rfl (by simp) rfl (by decide) (by decide) (by simp) rfl
set_option maxRecDepth 65536 in
set_option maxHeartbeats 4000000 in
theorem T_law4 (l : Launch) (Z : State) (a0 : Array Value) (g : G Z a0) (hs h : Heap) (ws : List Addr) (i0 i1 i2 i3 n c0 c1 c2 : Int32) (s e m d : Addr) (EE : Exa Z h e "com/example/sieve_for_sparql/sieveforsparql/InputException") (FM : Fld Z h e "java/lang/Throwable" "detailMessage" "Ljava/lang/String;" (.ref m)) (F : St Z h m d [110, 117, 108, 108, 32, 105, 115, 32, 114, 101, 113, 117, 105, 114, 101, 100]) : wkP l Z blaw room_1 hs [] (fun v h' os => v = some (.int 1)) ws h 30 6000 195 #[.val (.int i0), .val (.int i1), .val (.int i2), .val (.int i3), .val (.int n), .val (.int c0), .val (.int c1), .val (.int c2), .val .null, .val (.int (4 : Int32)), .val (.int (110 : Int32)), .val (.int (117 : Int32)), .val (.int (108 : Int32)), .val (.int (108 : Int32)), .unset, .unset, .unset, .unset] [(.ref e)] := by
  refine wkP.astore 197 #[.val (.int i0), .val (.int i1), .val (.int i2), .val (.int i3), .val (.int n), .val (.int c0), .val (.int c1), .val (.int c2), .val .null, .val (.int (4 : Int32)), .val (.int (110 : Int32)), .val (.int (117 : Int32)), .val (.int (108 : Int32)), .val (.int (108 : Int32)), .val (.ref e), .unset, .unset, .unset] at_195 rfl rfl rfl ?_
  refine wkP.aload 199 at_197 rfl rfl rfl ?_
  refine wkP.ifnonnullT 204 at_199 (by decide) rfl ?_
  refine wkP.aload 206 at_204 rfl rfl rfl ?_
  refine wkP.callW 209 (M_gm l Z a0 g _ e m FM) [] [] 0 g.2.1 EE (w199 g.1) (w200 g.1) (w201 g.1) (by decide) (w203 g.1) (w202 g.1) (w160 g.1) (w204 g.1) at_206 (lenOf pd32 rfl) rfl rfl rfl (by simp) (Nat.le_of_eq rfl) (by decide) (by decide) (by decide) (by decide) rfl ?_
  rintro v381 _ o381 ⟨rfl, rfl, rfl⟩ K381
  refine wkP.astore 211 #[.val (.int i0), .val (.int i1), .val (.int i2), .val (.int i3), .val (.int n), .val (.int c0), .val (.int c1), .val (.int c2), .val .null, .val (.int (4 : Int32)), .val (.int (110 : Int32)), .val (.int (117 : Int32)), .val (.int (108 : Int32)), .val (.int (108 : Int32)), .val (.ref e), .val (.ref m), .unset, .unset] at_209 rfl rfl rfl ?_
  refine wkP.aload 213 at_211 rfl rfl rfl ?_
  refine wkP.ifnonnullT 218 at_213 (by decide) rfl ?_
  refine wkP.aload 220 at_218 rfl rfl rfl ?_
  refine wkP.callV 223 (M_len l Z a0 g _ m d [110, 117, 108, 108, 32, 105, 115, 32, 114, 101, 113, 117, 105, 114, 101, 100] F) [] [] 0 g.2.1 F.exa (wkNFs (w61 g.1)) (w205 g.1) (w59 g.1) (w61 g.1) (w60 g.1) (w3 g.1) (w62 g.1) (by decide) at_220 (lenOf pd22 rfl) rfl rfl rfl (by simp) (Nat.le_of_eq rfl) (by decide) (by decide) (by decide) (by decide) rfl ?_
  rintro v382 _ o382 ⟨rfl, rfl, rfl⟩ K382
  refine wkP.iload 225 at_223 rfl rfl ?_
  refine wkP.bipush 227 (12 : Int32) at_225 rfl rfl ?_
  refine wkP.iadd 228 (16 : Int32) at_227 (by decide) rfl ?_
  refine wkP.icmpT 233 at_228 (show (16 : Int32) = (16 : Int32) from (by decide)) (by decide) (by decide) ?_
  refine wkP.iload 235 at_233 rfl rfl ?_
  refine wkP.iconst 236 (1 : Int32) at_235 rfl rfl ?_
  refine wkP.icmpF 239 at_236 (show ¬ ((4 : Int32) < (1 : Int32)) from (by decide)) rfl ?_
  refine wkP.aload 241 at_239 rfl rfl rfl ?_
  refine wkP.iconst 242 (0 : Int32) at_241 rfl rfl ?_
  refine wkP.callV 245 (M_chAt l Z a0 g _ m d [110, 117, 108, 108, 32, 105, 115, 32, 114, 101, 113, 117, 105, 114, 101, 100] F 0 (110 : Int32) rfl (F.ch (110 : Int32) (by simp))) [(.int (0 : Int32))] [] 0 g.2.1 F.exa (wkNFs (w209 g.1)) (w206 g.1) (w207 g.1) (w209 g.1) (w208 g.1) (w3 g.1) (w210 g.1) (by decide) at_242 (lenOf pd33 rfl) rfl rfl rfl (by simp) (Nat.le_of_eq rfl) (by decide) (by decide) (by decide) (by decide) rfl ?_
  rintro v383 _ o383 ⟨rfl, rfl, rfl⟩ K383
  refine wkP.iload 247 at_245 rfl rfl ?_
  refine wkP.icmpF 250 at_247 (show ¬ (¬ (110 : Int32) = (110 : Int32)) from (by decide)) rfl ?_
  refine wkP.iload 252 at_250 rfl rfl ?_
  refine wkP.iconst 253 (2 : Int32) at_252 rfl rfl ?_
  refine wkP.icmpF 256 at_253 (show ¬ ((4 : Int32) < (2 : Int32)) from (by decide)) rfl ?_
  refine wkP.aload 258 at_256 rfl rfl rfl ?_
  refine wkP.iconst 259 (1 : Int32) at_258 rfl rfl ?_
  refine wkP.callV 262 (M_chAt l Z a0 g _ m d [110, 117, 108, 108, 32, 105, 115, 32, 114, 101, 113, 117, 105, 114, 101, 100] F 1 (117 : Int32) rfl (F.ch (117 : Int32) (by simp))) [(.int (1 : Int32))] [] 0 g.2.1 F.exa (wkNFs (w209 g.1)) (w206 g.1) (w207 g.1) (w209 g.1) (w208 g.1) (w3 g.1) (w210 g.1) (by decide) at_259 (lenOf pd33 rfl) rfl rfl rfl (by simp) (Nat.le_of_eq rfl) (by decide) (by decide) (by decide) (by decide) rfl ?_
  rintro v384 _ o384 ⟨rfl, rfl, rfl⟩ K384
  refine wkP.iload 264 at_262 rfl rfl ?_
  refine wkP.icmpF 267 at_264 (show ¬ (¬ (117 : Int32) = (117 : Int32)) from (by decide)) rfl ?_
  refine wkP.iload 269 at_267 rfl rfl ?_
  refine wkP.iconst 270 (3 : Int32) at_269 rfl rfl ?_
  refine wkP.icmpF 273 at_270 (show ¬ ((4 : Int32) < (3 : Int32)) from (by decide)) rfl ?_
  refine wkP.aload 275 at_273 rfl rfl rfl ?_
  refine wkP.iconst 276 (2 : Int32) at_275 rfl rfl ?_
  refine wkP.callV 279 (M_chAt l Z a0 g _ m d [110, 117, 108, 108, 32, 105, 115, 32, 114, 101, 113, 117, 105, 114, 101, 100] F 2 (108 : Int32) rfl (F.ch (108 : Int32) (by simp))) [(.int (2 : Int32))] [] 0 g.2.1 F.exa (wkNFs (w209 g.1)) (w206 g.1) (w207 g.1) (w209 g.1) (w208 g.1) (w3 g.1) (w210 g.1) (by decide) at_276 (lenOf pd33 rfl) rfl rfl rfl (by simp) (Nat.le_of_eq rfl) (by decide) (by decide) (by decide) (by decide) rfl ?_
  rintro v385 _ o385 ⟨rfl, rfl, rfl⟩ K385
  refine wkP.iload 281 at_279 rfl rfl ?_
  refine wkP.icmpF 284 at_281 (show ¬ (¬ (108 : Int32) = (108 : Int32)) from (by decide)) rfl ?_
  refine wkP.iload 286 at_284 rfl rfl ?_
  refine wkP.iconst 287 (4 : Int32) at_286 rfl rfl ?_
  refine wkP.icmpF 290 at_287 (show ¬ ((4 : Int32) < (4 : Int32)) from (by decide)) rfl ?_
  refine wkP.aload 292 at_290 rfl rfl rfl ?_
  refine wkP.iconst 293 (3 : Int32) at_292 rfl rfl ?_
  refine wkP.callV 296 (M_chAt l Z a0 g _ m d [110, 117, 108, 108, 32, 105, 115, 32, 114, 101, 113, 117, 105, 114, 101, 100] F 3 (108 : Int32) rfl (F.ch (108 : Int32) (by simp))) [(.int (3 : Int32))] [] 0 g.2.1 F.exa (wkNFs (w209 g.1)) (w206 g.1) (w207 g.1) (w209 g.1) (w208 g.1) (w3 g.1) (w210 g.1) (by decide) at_293 (lenOf pd33 rfl) rfl rfl rfl (by simp) (Nat.le_of_eq rfl) (by decide) (by decide) (by decide) (by decide) rfl ?_
  rintro v386 _ o386 ⟨rfl, rfl, rfl⟩ K386
  refine wkP.iload 298 at_296 rfl rfl ?_
  refine wkP.icmpF 301 at_298 (show ¬ (¬ (108 : Int32) = (108 : Int32)) from (by decide)) rfl ?_
  refine wkP.iconst 302 (1 : Int32) at_301 rfl rfl ?_
  refine wkP.goto 306 at_302 (by decide) (by decide) ?_
  refine wkP.istore 308 #[.val (.int i0), .val (.int i1), .val (.int i2), .val (.int i3), .val (.int n), .val (.int c0), .val (.int c1), .val (.int c2), .val .null, .val (.int (4 : Int32)), .val (.int (110 : Int32)), .val (.int (117 : Int32)), .val (.int (108 : Int32)), .val (.int (108 : Int32)), .val (.ref e), .val (.ref m), .val (.int (1 : Int32)), .unset] at_306 rfl rfl ?_
  refine wkP.aload 310 at_308 rfl rfl rfl ?_
  refine wkP.iload 312 at_310 rfl rfl ?_
  refine wkP.callV 315 (M_chAt l Z a0 g _ m d [110, 117, 108, 108, 32, 105, 115, 32, 114, 101, 113, 117, 105, 114, 101, 100] F 4 (32 : Int32) rfl (F.ch (32 : Int32) (by simp))) [(.int (4 : Int32))] [] 0 g.2.1 F.exa (wkNFs (w209 g.1)) (w206 g.1) (w207 g.1) (w209 g.1) (w208 g.1) (w3 g.1) (w210 g.1) (by decide) at_312 (lenOf pd33 rfl) rfl rfl rfl (by simp) (Nat.le_of_eq rfl) (by decide) (by decide) (by decide) (by decide) rfl ?_
  rintro v387 _ o387 ⟨rfl, rfl, rfl⟩ K387
  refine wkP.bipush 317 (32 : Int32) at_315 rfl rfl ?_
  refine wkP.icmpF 320 at_317 (show ¬ (¬ (32 : Int32) = (32 : Int32)) from (by decide)) rfl ?_
  refine wkP.aload 322 at_320 rfl rfl rfl ?_
  refine wkP.iload 324 at_322 rfl rfl ?_
  refine wkP.iconst 325 (1 : Int32) at_324 rfl rfl ?_
  refine wkP.iadd 326 (5 : Int32) at_325 (by decide) rfl ?_
  refine wkP.callV 329 (M_chAt l Z a0 g _ m d [110, 117, 108, 108, 32, 105, 115, 32, 114, 101, 113, 117, 105, 114, 101, 100] F 5 (105 : Int32) rfl (F.ch (105 : Int32) (by simp))) [(.int (5 : Int32))] [] 0 g.2.1 F.exa (wkNFs (w209 g.1)) (w206 g.1) (w207 g.1) (w209 g.1) (w208 g.1) (w3 g.1) (w210 g.1) (by decide) at_326 (lenOf pd33 rfl) rfl rfl rfl (by simp) (Nat.le_of_eq rfl) (by decide) (by decide) (by decide) (by decide) rfl ?_
  rintro v388 _ o388 ⟨rfl, rfl, rfl⟩ K388
  refine wkP.bipush 331 (105 : Int32) at_329 rfl rfl ?_
  refine wkP.icmpF 334 at_331 (show ¬ (¬ (105 : Int32) = (105 : Int32)) from (by decide)) rfl ?_
  refine wkP.aload 336 at_334 rfl rfl rfl ?_
  refine wkP.iload 338 at_336 rfl rfl ?_
  refine wkP.iconst 339 (2 : Int32) at_338 rfl rfl ?_
  refine wkP.iadd 340 (6 : Int32) at_339 (by decide) rfl ?_
  refine wkP.callV 343 (M_chAt l Z a0 g _ m d [110, 117, 108, 108, 32, 105, 115, 32, 114, 101, 113, 117, 105, 114, 101, 100] F 6 (115 : Int32) rfl (F.ch (115 : Int32) (by simp))) [(.int (6 : Int32))] [] 0 g.2.1 F.exa (wkNFs (w209 g.1)) (w206 g.1) (w207 g.1) (w209 g.1) (w208 g.1) (w3 g.1) (w210 g.1) (by decide) at_340 (lenOf pd33 rfl) rfl rfl rfl (by simp) (Nat.le_of_eq rfl) (by decide) (by decide) (by decide) (by decide) rfl ?_
  rintro v389 _ o389 ⟨rfl, rfl, rfl⟩ K389
  refine wkP.bipush 345 (115 : Int32) at_343 rfl rfl ?_
  refine wkP.icmpF 348 at_345 (show ¬ (¬ (115 : Int32) = (115 : Int32)) from (by decide)) rfl ?_
  refine wkP.aload 350 at_348 rfl rfl rfl ?_
  refine wkP.iload 352 at_350 rfl rfl ?_
  refine wkP.iconst 353 (3 : Int32) at_352 rfl rfl ?_
  refine wkP.iadd 354 (7 : Int32) at_353 (by decide) rfl ?_
  refine wkP.callV 357 (M_chAt l Z a0 g _ m d [110, 117, 108, 108, 32, 105, 115, 32, 114, 101, 113, 117, 105, 114, 101, 100] F 7 (32 : Int32) rfl (F.ch (32 : Int32) (by simp))) [(.int (7 : Int32))] [] 0 g.2.1 F.exa (wkNFs (w209 g.1)) (w206 g.1) (w207 g.1) (w209 g.1) (w208 g.1) (w3 g.1) (w210 g.1) (by decide) at_354 (lenOf pd33 rfl) rfl rfl rfl (by simp) (Nat.le_of_eq rfl) (by decide) (by decide) (by decide) (by decide) rfl ?_
  rintro v390 _ o390 ⟨rfl, rfl, rfl⟩ K390
  refine wkP.bipush 359 (32 : Int32) at_357 rfl rfl ?_
  refine wkP.icmpF 362 at_359 (show ¬ (¬ (32 : Int32) = (32 : Int32)) from (by decide)) rfl ?_
  refine wkP.aload 364 at_362 rfl rfl rfl ?_
  refine wkP.iload 366 at_364 rfl rfl ?_
  refine wkP.iconst 367 (4 : Int32) at_366 rfl rfl ?_
  refine wkP.iadd 368 (8 : Int32) at_367 (by decide) rfl ?_
  refine wkP.callV 371 (M_chAt l Z a0 g _ m d [110, 117, 108, 108, 32, 105, 115, 32, 114, 101, 113, 117, 105, 114, 101, 100] F 8 (114 : Int32) rfl (F.ch (114 : Int32) (by simp))) [(.int (8 : Int32))] [] 0 g.2.1 F.exa (wkNFs (w209 g.1)) (w206 g.1) (w207 g.1) (w209 g.1) (w208 g.1) (w3 g.1) (w210 g.1) (by decide) at_368 (lenOf pd33 rfl) rfl rfl rfl (by simp) (Nat.le_of_eq rfl) (by decide) (by decide) (by decide) (by decide) rfl ?_
  rintro v391 _ o391 ⟨rfl, rfl, rfl⟩ K391
  refine wkP.bipush 373 (114 : Int32) at_371 rfl rfl ?_
  refine wkP.icmpF 376 at_373 (show ¬ (¬ (114 : Int32) = (114 : Int32)) from (by decide)) rfl ?_
  refine wkP.aload 378 at_376 rfl rfl rfl ?_
  refine wkP.iload 380 at_378 rfl rfl ?_
  refine wkP.iconst 381 (5 : Int32) at_380 rfl rfl ?_
  refine wkP.iadd 382 (9 : Int32) at_381 (by decide) rfl ?_
  refine wkP.callV 385 (M_chAt l Z a0 g _ m d [110, 117, 108, 108, 32, 105, 115, 32, 114, 101, 113, 117, 105, 114, 101, 100] F 9 (101 : Int32) rfl (F.ch (101 : Int32) (by simp))) [(.int (9 : Int32))] [] 0 g.2.1 F.exa (wkNFs (w209 g.1)) (w206 g.1) (w207 g.1) (w209 g.1) (w208 g.1) (w3 g.1) (w210 g.1) (by decide) at_382 (lenOf pd33 rfl) rfl rfl rfl (by simp) (Nat.le_of_eq rfl) (by decide) (by decide) (by decide) (by decide) rfl ?_
  rintro v392 _ o392 ⟨rfl, rfl, rfl⟩ K392
  refine wkP.bipush 387 (101 : Int32) at_385 rfl rfl ?_
  refine wkP.icmpF 390 at_387 (show ¬ (¬ (101 : Int32) = (101 : Int32)) from (by decide)) rfl ?_
  refine wkP.aload 392 at_390 rfl rfl rfl ?_
  refine wkP.iload 394 at_392 rfl rfl ?_
  refine wkP.bipush 396 (6 : Int32) at_394 rfl rfl ?_
  refine wkP.iadd 397 (10 : Int32) at_396 (by decide) rfl ?_
  refine wkP.callV 400 (M_chAt l Z a0 g _ m d [110, 117, 108, 108, 32, 105, 115, 32, 114, 101, 113, 117, 105, 114, 101, 100] F 10 (113 : Int32) rfl (F.ch (113 : Int32) (by simp))) [(.int (10 : Int32))] [] 0 g.2.1 F.exa (wkNFs (w209 g.1)) (w206 g.1) (w207 g.1) (w209 g.1) (w208 g.1) (w3 g.1) (w210 g.1) (by decide) at_397 (lenOf pd33 rfl) rfl rfl rfl (by simp) (Nat.le_of_eq rfl) (by decide) (by decide) (by decide) (by decide) rfl ?_
  rintro v393 _ o393 ⟨rfl, rfl, rfl⟩ K393
  refine wkP.bipush 402 (113 : Int32) at_400 rfl rfl ?_
  refine wkP.icmpF 405 at_402 (show ¬ (¬ (113 : Int32) = (113 : Int32)) from (by decide)) rfl ?_
  refine wkP.aload 407 at_405 rfl rfl rfl ?_
  refine wkP.iload 409 at_407 rfl rfl ?_
  refine wkP.bipush 411 (7 : Int32) at_409 rfl rfl ?_
  refine wkP.iadd 412 (11 : Int32) at_411 (by decide) rfl ?_
  refine wkP.callV 415 (M_chAt l Z a0 g _ m d [110, 117, 108, 108, 32, 105, 115, 32, 114, 101, 113, 117, 105, 114, 101, 100] F 11 (117 : Int32) rfl (F.ch (117 : Int32) (by simp))) [(.int (11 : Int32))] [] 0 g.2.1 F.exa (wkNFs (w209 g.1)) (w206 g.1) (w207 g.1) (w209 g.1) (w208 g.1) (w3 g.1) (w210 g.1) (by decide) at_412 (lenOf pd33 rfl) rfl rfl rfl (by simp) (Nat.le_of_eq rfl) (by decide) (by decide) (by decide) (by decide) rfl ?_
  rintro v394 _ o394 ⟨rfl, rfl, rfl⟩ K394
  refine wkP.bipush 417 (117 : Int32) at_415 rfl rfl ?_
  refine wkP.icmpF 420 at_417 (show ¬ (¬ (117 : Int32) = (117 : Int32)) from (by decide)) rfl ?_
  refine wkP.aload 422 at_420 rfl rfl rfl ?_
  refine wkP.iload 424 at_422 rfl rfl ?_
  refine wkP.bipush 426 (8 : Int32) at_424 rfl rfl ?_
  refine wkP.iadd 427 (12 : Int32) at_426 (by decide) rfl ?_
  refine wkP.callV 430 (M_chAt l Z a0 g _ m d [110, 117, 108, 108, 32, 105, 115, 32, 114, 101, 113, 117, 105, 114, 101, 100] F 12 (105 : Int32) rfl (F.ch (105 : Int32) (by simp))) [(.int (12 : Int32))] [] 0 g.2.1 F.exa (wkNFs (w209 g.1)) (w206 g.1) (w207 g.1) (w209 g.1) (w208 g.1) (w3 g.1) (w210 g.1) (by decide) at_427 (lenOf pd33 rfl) rfl rfl rfl (by simp) (Nat.le_of_eq rfl) (by decide) (by decide) (by decide) (by decide) rfl ?_
  rintro v395 _ o395 ⟨rfl, rfl, rfl⟩ K395
  refine wkP.bipush 432 (105 : Int32) at_430 rfl rfl ?_
  refine wkP.icmpF 435 at_432 (show ¬ (¬ (105 : Int32) = (105 : Int32)) from (by decide)) rfl ?_
  refine wkP.aload 437 at_435 rfl rfl rfl ?_
  refine wkP.iload 439 at_437 rfl rfl ?_
  refine wkP.bipush 441 (9 : Int32) at_439 rfl rfl ?_
  refine wkP.iadd 442 (13 : Int32) at_441 (by decide) rfl ?_
  refine wkP.callV 445 (M_chAt l Z a0 g _ m d [110, 117, 108, 108, 32, 105, 115, 32, 114, 101, 113, 117, 105, 114, 101, 100] F 13 (114 : Int32) rfl (F.ch (114 : Int32) (by simp))) [(.int (13 : Int32))] [] 0 g.2.1 F.exa (wkNFs (w209 g.1)) (w206 g.1) (w207 g.1) (w209 g.1) (w208 g.1) (w3 g.1) (w210 g.1) (by decide) at_442 (lenOf pd33 rfl) rfl rfl rfl (by simp) (Nat.le_of_eq rfl) (by decide) (by decide) (by decide) (by decide) rfl ?_
  rintro v396 _ o396 ⟨rfl, rfl, rfl⟩ K396
  refine wkP.bipush 447 (114 : Int32) at_445 rfl rfl ?_
  refine wkP.icmpF 450 at_447 (show ¬ (¬ (114 : Int32) = (114 : Int32)) from (by decide)) rfl ?_
  refine wkP.aload 452 at_450 rfl rfl rfl ?_
  refine wkP.iload 454 at_452 rfl rfl ?_
  refine wkP.bipush 456 (10 : Int32) at_454 rfl rfl ?_
  refine wkP.iadd 457 (14 : Int32) at_456 (by decide) rfl ?_
  refine wkP.callV 460 (M_chAt l Z a0 g _ m d [110, 117, 108, 108, 32, 105, 115, 32, 114, 101, 113, 117, 105, 114, 101, 100] F 14 (101 : Int32) rfl (F.ch (101 : Int32) (by simp))) [(.int (14 : Int32))] [] 0 g.2.1 F.exa (wkNFs (w209 g.1)) (w206 g.1) (w207 g.1) (w209 g.1) (w208 g.1) (w3 g.1) (w210 g.1) (by decide) at_457 (lenOf pd33 rfl) rfl rfl rfl (by simp) (Nat.le_of_eq rfl) (by decide) (by decide) (by decide) (by decide) rfl ?_
  rintro v397 _ o397 ⟨rfl, rfl, rfl⟩ K397
  refine wkP.bipush 462 (101 : Int32) at_460 rfl rfl ?_
  refine wkP.icmpF 465 at_462 (show ¬ (¬ (101 : Int32) = (101 : Int32)) from (by decide)) rfl ?_
  refine wkP.aload 467 at_465 rfl rfl rfl ?_
  refine wkP.iload 469 at_467 rfl rfl ?_
  refine wkP.bipush 471 (11 : Int32) at_469 rfl rfl ?_
  refine wkP.iadd 472 (15 : Int32) at_471 (by decide) rfl ?_
  refine wkP.callV 475 (M_chAt l Z a0 g _ m d [110, 117, 108, 108, 32, 105, 115, 32, 114, 101, 113, 117, 105, 114, 101, 100] F 15 (100 : Int32) rfl (F.ch (100 : Int32) (by simp))) [(.int (15 : Int32))] [] 0 g.2.1 F.exa (wkNFs (w209 g.1)) (w206 g.1) (w207 g.1) (w209 g.1) (w208 g.1) (w3 g.1) (w210 g.1) (by decide) at_472 (lenOf pd33 rfl) rfl rfl rfl (by simp) (Nat.le_of_eq rfl) (by decide) (by decide) (by decide) (by decide) rfl ?_
  rintro v398 _ o398 ⟨rfl, rfl, rfl⟩ K398
  refine wkP.bipush 477 (100 : Int32) at_475 rfl rfl ?_
  refine wkP.icmpF 480 at_477 (show ¬ (¬ (100 : Int32) = (100 : Int32)) from (by decide)) rfl ?_
  refine wkP.iconst 481 (1 : Int32) at_480 rfl rfl ?_
  refine wkP.goto 485 at_481 (by decide) (by decide) ?_
  refine wkP.istore 487 #[.val (.int i0), .val (.int i1), .val (.int i2), .val (.int i3), .val (.int n), .val (.int c0), .val (.int c1), .val (.int c2), .val .null, .val (.int (4 : Int32)), .val (.int (110 : Int32)), .val (.int (117 : Int32)), .val (.int (108 : Int32)), .val (.int (108 : Int32)), .val (.ref e), .val (.ref m), .val (.int (1 : Int32)), .val (.int (1 : Int32))] at_485 rfl rfl ?_
  refine wkP.iload 489 at_487 rfl rfl ?_
  refine wkP.ifF 492 at_489 (show ¬ ((1 : Int32) = (0 : Int32)) from (by decide)) rfl ?_
  refine wkP.iload 494 at_492 rfl rfl ?_
  refine wkP.ifF 497 at_494 (show ¬ ((1 : Int32) = (0 : Int32)) from (by decide)) rfl ?_
  refine wkP.iconst 498 (1 : Int32) at_497 rfl rfl ?_
  refine wkP.goto 502 at_498 (by decide) (by decide) ?_
  exact wkP.retI .boolean [] g.2.1 at_502 rfl (by simp) rfl (by decide) (by decide) (by simp) rfl
set_option maxRecDepth 65536 in
set_option maxHeartbeats 4000000 in
theorem M_law (l : Launch) (Z : State) (a0 : Array Value) (g : G Z a0) (hst : l.stackTraces = true) (r2 : ∃ u sen : Value, u.isRef = true ∧ sen.isRef = true ∧ Sta Z Z.heap "java/lang/Throwable" "UNASSIGNED_STACK" "[Ljava/lang/StackTraceElement;" u ∧ Sta Z Z.heap "java/lang/Throwable" "SUPPRESSED_SENTINEL" "Ljava/util/List;" sen) (h : Heap) (i0 i1 i2 i3 : Int32) : wkM l Z blaw room_1 #[.int i0, .int i1, .int i2, .int i3] h [] (fun v h' os => v = some (.int 1)) := by
  refine wkM.of #[.val (.int i0), .val (.int i1), .val (.int i2), .val (.int i3), .unset, .unset, .unset, .unset, .unset, .unset, .unset, .unset, .unset, .unset, .unset, .unset, .unset, .unset] (plainFor_of_name (by first | (simp [plainName, overriddenIn]; done) | decide +kernel)) (fun m => by first | rfl | (simp [entryFrame, mkF, argsToLocals, Value.category]; done)) ?_
  obtain ⟨n, hn⟩ : ∃ n, i0 &&& 7 = n := ⟨_, rfl⟩
  obtain ⟨c0, hc0, hk0⟩ := mask16 i1
  obtain ⟨c1, hc1, hk1⟩ := mask16 i2
  obtain ⟨c2, hc2, hk2⟩ := mask16 i3
  refine wkP.iloadN 1 at_0 rfl rfl ?_
  refine wkP.bipush 3 (7 : Int32) at_1 rfl rfl ?_
  refine wkP.iand 4 n at_3 hn rfl ?_
  refine wkP.istore 6 #[.val (.int i0), .val (.int i1), .val (.int i2), .val (.int i3), .val (.int n), .unset, .unset, .unset, .unset, .unset, .unset, .unset, .unset, .unset, .unset, .unset, .unset, .unset] at_4 rfl rfl ?_
  refine wkP.iloadN 7 at_6 rfl rfl ?_
  refine wkP.ldcI 9 (w0 g.1) at_7 rfl ?_
  refine wkP.iand 10 (i1 &&& (65535 : Int32)) at_9 rfl rfl ?_
  refine wkP.i2c 11 c0 at_10 hc0 rfl ?_
  refine wkP.istore 13 #[.val (.int i0), .val (.int i1), .val (.int i2), .val (.int i3), .val (.int n), .val (.int c0), .unset, .unset, .unset, .unset, .unset, .unset, .unset, .unset, .unset, .unset, .unset, .unset] at_11 rfl rfl ?_
  refine wkP.iloadN 14 at_13 rfl rfl ?_
  refine wkP.ldcI 16 (w0 g.1) at_14 rfl ?_
  refine wkP.iand 17 (i2 &&& (65535 : Int32)) at_16 rfl rfl ?_
  refine wkP.i2c 18 c1 at_17 hc1 rfl ?_
  refine wkP.istore 20 #[.val (.int i0), .val (.int i1), .val (.int i2), .val (.int i3), .val (.int n), .val (.int c0), .val (.int c1), .unset, .unset, .unset, .unset, .unset, .unset, .unset, .unset, .unset, .unset, .unset] at_18 rfl rfl ?_
  refine wkP.iloadN 21 at_20 rfl rfl ?_
  refine wkP.ldcI 23 (w0 g.1) at_21 rfl ?_
  refine wkP.iand 24 (i3 &&& (65535 : Int32)) at_23 rfl rfl ?_
  refine wkP.i2c 25 c2 at_24 hc2 rfl ?_
  refine wkP.istore 27 #[.val (.int i0), .val (.int i1), .val (.int i2), .val (.int i3), .val (.int n), .val (.int c0), .val (.int c1), .val (.int c2), .unset, .unset, .unset, .unset, .unset, .unset, .unset, .unset, .unset, .unset] at_25 rfl rfl ?_
  refine wkP.iload 29 at_27 rfl rfl ?_
  refine wkP.istore 31 #[.val (.int i0), .val (.int i1), .val (.int i2), .val (.int i3), .val (.int n), .val (.int c0), .val (.int c1), .val (.int c2), .unset, .unset, .val (.int c0), .unset, .unset, .unset, .unset, .unset, .unset, .unset] at_29 rfl rfl ?_
  refine wkP.iload 33 at_31 rfl rfl ?_
  refine wkP.istore 35 #[.val (.int i0), .val (.int i1), .val (.int i2), .val (.int i3), .val (.int n), .val (.int c0), .val (.int c1), .val (.int c2), .unset, .unset, .val (.int c0), .val (.int c1), .unset, .unset, .unset, .unset, .unset, .unset] at_33 rfl rfl ?_
  refine wkP.iload 37 at_35 rfl rfl ?_
  refine wkP.istore 39 #[.val (.int i0), .val (.int i1), .val (.int i2), .val (.int i3), .val (.int n), .val (.int c0), .val (.int c1), .val (.int c2), .unset, .unset, .val (.int c0), .val (.int c1), .val (.int c2), .unset, .unset, .unset, .unset, .unset] at_37 rfl rfl ?_
  refine wkP.bipush 41 (120 : Int32) at_39 rfl rfl ?_
  refine wkP.istore 43 #[.val (.int i0), .val (.int i1), .val (.int i2), .val (.int i3), .val (.int n), .val (.int c0), .val (.int c1), .val (.int c2), .unset, .unset, .val (.int c0), .val (.int c1), .val (.int c2), .val (.int (120 : Int32)), .unset, .unset, .unset, .unset] at_41 rfl rfl ?_
  refine wkP.iload 45 at_43 rfl rfl ?_
  refine wkP.iconst 46 (4 : Int32) at_45 rfl rfl ?_
  by_cases hlt : n < (4 : Int32)
  · refine wkP.icmpT 74 at_46 (show n < (4 : Int32) from hlt) (by decide) (by decide) ?_
    refine wkP.iload 76 at_74 rfl rfl ?_
    by_cases hn_0 : n = (0 : Int32)
    · refine wkP.ifF 79 at_76 (show ¬ (¬ n = (0 : Int32)) from (fun q => q hn_0)) rfl ?_
      refine wkP.newO 82 (w1 g.1) (w2 g.1) (w3 g.1) at_79 (by decide) (by decide) rfl ?_
      intro h399 a399 g399 l399 K399 E399 D399 U399
      have z399 := K399.1
      have F400 := D399 (Or.inr (w18 g.1)) (ty := .byte) (by decide)
      have F401 := D399 (Or.inr (w17 g.1)) (ty := (.array .byte)) (by decide)
      refine wkP.dup 83 at_82 rfl rfl ?_
      refine wkP.iconst 84 (0 : Int32) at_83 rfl rfl ?_
      refine wkP.newP 86 .char 0 0 (w4 g.1) rfl rfl rfl at_84 rfl (by decide) (by decide) (by decide) (by decide) rfl ?_
      intro h402 a402 g402 l402 K402 A402
      have z402 := K402.1
      replace A402 : Ia Z h402 a402 .char [] := A402
      have hch : chs [] := fun c hc => by simp at hc
      have E399_403 := (E399.keep K402)
      have F400_404 := (F400.keep K402 nn0)
      have F401_405 := (F401.keep K402 nn0)
      refine wkP.callI 89 (M_init1 l Z a0 g _ a399 a402 [] A402 hch (by simp) _ _ E399_403 F400_404 F401_405) [(.ref a402)] [(.ref a399)] 1 g.2.1 (w5 g.1) (w6 g.1) (w3 g.1) (w7 g.1) rfl rfl (by decide) at_86 (lenOf pd34 rfl) rfl rfl rfl (by simp) (Nat.le_of_eq rfl) (by decide) (by decide) (by decide) (by decide) rfl ?_
      rintro v406 h406 o406 ⟨d406, rfl, rfl, H406⟩ K406
      have z406 := K406.1
      refine wkP.astore 91 #[.val (.int i0), .val (.int i1), .val (.int i2), .val (.int i3), .val (.int n), .val (.int c0), .val (.int c1), .val (.int c2), .val (.ref a399), .unset, .val (.int c0), .val (.int c1), .val (.int c2), .val (.int (120 : Int32)), .unset, .unset, .unset, .unset] at_89 rfl rfl rfl ?_
      refine wkP.iconst 92 (0 : Int32) at_91 rfl rfl ?_
      refine wkP.istore 94 #[.val (.int i0), .val (.int i1), .val (.int i2), .val (.int i3), .val (.int n), .val (.int c0), .val (.int c1), .val (.int c2), .val (.ref a399), .val (.int (0 : Int32)), .val (.int c0), .val (.int c1), .val (.int c2), .val (.int (120 : Int32)), .unset, .unset, .unset, .unset] at_92 rfl rfl ?_
      refine wkP.goto 190 at_94 (by decide) (by decide) ?_
      refine wkP.aload 192 at_190 rfl rfl rfl ?_
      refine wkP.callS 195 (M_mis l Z a0 g _ hst r2 a399 d406 [] H406 (by simp)) [(.ref a399)] [] 0 g.2.1 (w23 g.1) (w24 g.1) (w25 g.1) (w26 g.1) (by decide) at_192 (lenOf pd35 rfl) rfl rfl rfl (by simp) (Nat.le_of_eq rfl) (by decide) (by decide) (by decide) (by decide) rfl ?_
      rintro v407 h407 o407 ⟨e, m, d, rfl, rfl, EE, FM, H⟩ K407
      have z407 := K407.1
      refine wkP.more (k1 := 30) (n1 := 6000) (by decide) (by decide) ?_
      exact T_law0 l Z a0 g _ _ _ _ _ _ _ _ _ _ _ a399 _ _ _ EE FM H
    · refine wkP.ifT 97 at_76 (show ¬ n = (0 : Int32) from hn_0) (by decide) (by decide) ?_
      refine wkP.iload 99 at_97 rfl rfl ?_
      refine wkP.iconst 100 (1 : Int32) at_99 rfl rfl ?_
      by_cases hn_1 : n = (1 : Int32)
      · refine wkP.icmpF 103 at_100 (show ¬ (¬ n = (1 : Int32)) from (fun q => q hn_1)) rfl ?_
        refine wkP.newO 106 (w1 g.1) (w2 g.1) (w3 g.1) at_103 (by decide) (by decide) rfl ?_
        intro h408 a408 g408 l408 K408 E408 D408 U408
        have z408 := K408.1
        have F409 := D408 (Or.inr (w18 g.1)) (ty := .byte) (by decide)
        have F410 := D408 (Or.inr (w17 g.1)) (ty := (.array .byte)) (by decide)
        refine wkP.dup 107 at_106 rfl rfl ?_
        refine wkP.iconst 108 (1 : Int32) at_107 rfl rfl ?_
        refine wkP.newP 110 .char 1 1 (w4 g.1) rfl rfl rfl at_108 rfl (by decide) (by decide) (by decide) (by decide) rfl ?_
        intro h411 a411 g411 l411 K411 A411
        have z411 := K411.1
        replace A411 : Ia Z h411 a411 .char [(0 : Int32)] := A411
        refine wkP.dup 111 at_110 rfl rfl ?_
        refine wkP.iconst 112 (0 : Int32) at_111 rfl rfl ?_
        refine wkP.iload 114 at_112 rfl rfl ?_
        refine wkP.stC 115 0 c0 A411 at_114 rfl (by simp) (nar_c hk0) (by simp) rfl ?_
        intro h412 K412 A412
        have z412 := K412.1
        replace A412 : Ia Z h412 a411 .char [c0] := A412
        have hch : chs [c0] := by
          intro c hc
          simp only [List.mem_cons, List.not_mem_nil, or_false] at hc
          rcases hc with rfl
          · exact hk0
        have E408_413 := ((E408.keep K411).keep K412)
        have F409_414 := ((F409.keep K411 nn0).keep K412 (nnS (by omega) nn0))
        have F410_415 := ((F410.keep K411 nn0).keep K412 (nnS (by omega) nn0))
        refine wkP.callI 118 (M_init1 l Z a0 g _ a408 a411 [c0] A412 hch (by simp) _ _ E408_413 F409_414 F410_415) [(.ref a411)] [(.ref a408)] 1 g.2.1 (w5 g.1) (w6 g.1) (w3 g.1) (w7 g.1) rfl rfl (by decide) at_115 (lenOf pd34 rfl) rfl rfl rfl (by simp) (Nat.le_of_eq rfl) (by decide) (by decide) (by decide) (by decide) rfl ?_
        rintro v416 h416 o416 ⟨d416, rfl, rfl, H416⟩ K416
        have z416 := K416.1
        refine wkP.astore 120 #[.val (.int i0), .val (.int i1), .val (.int i2), .val (.int i3), .val (.int n), .val (.int c0), .val (.int c1), .val (.int c2), .val (.ref a408), .unset, .val (.int c0), .val (.int c1), .val (.int c2), .val (.int (120 : Int32)), .unset, .unset, .unset, .unset] at_118 rfl rfl rfl ?_
        refine wkP.iconst 121 (1 : Int32) at_120 rfl rfl ?_
        refine wkP.istore 123 #[.val (.int i0), .val (.int i1), .val (.int i2), .val (.int i3), .val (.int n), .val (.int c0), .val (.int c1), .val (.int c2), .val (.ref a408), .val (.int (1 : Int32)), .val (.int c0), .val (.int c1), .val (.int c2), .val (.int (120 : Int32)), .unset, .unset, .unset, .unset] at_121 rfl rfl ?_
        refine wkP.goto 190 at_123 (by decide) (by decide) ?_
        refine wkP.aload 192 at_190 rfl rfl rfl ?_
        refine wkP.callS 195 (M_mis l Z a0 g _ hst r2 a408 d416 [c0] H416 (by simp)) [(.ref a408)] [] 0 g.2.1 (w23 g.1) (w24 g.1) (w25 g.1) (w26 g.1) (by decide) at_192 (lenOf pd35 rfl) rfl rfl rfl (by simp) (Nat.le_of_eq rfl) (by decide) (by decide) (by decide) (by decide) rfl ?_
        rintro v417 h417 o417 ⟨e, m, d, rfl, rfl, EE, FM, H⟩ K417
        have z417 := K417.1
        refine wkP.more (k1 := 30) (n1 := 6000) (by decide) (by decide) ?_
        exact T_law1 l Z a0 g _ _ _ _ _ _ _ _ _ _ _ a408 _ _ _ EE FM H
      · refine wkP.icmpT 126 at_100 (show ¬ n = (1 : Int32) from hn_1) (by decide) (by decide) ?_
        refine wkP.iload 128 at_126 rfl rfl ?_
        refine wkP.iconst 129 (2 : Int32) at_128 rfl rfl ?_
        by_cases hn_2 : n = (2 : Int32)
        · refine wkP.icmpF 132 at_129 (show ¬ (¬ n = (2 : Int32)) from (fun q => q hn_2)) rfl ?_
          refine wkP.newO 135 (w1 g.1) (w2 g.1) (w3 g.1) at_132 (by decide) (by decide) rfl ?_
          intro h418 a418 g418 l418 K418 E418 D418 U418
          have z418 := K418.1
          have F419 := D418 (Or.inr (w18 g.1)) (ty := .byte) (by decide)
          have F420 := D418 (Or.inr (w17 g.1)) (ty := (.array .byte)) (by decide)
          refine wkP.dup 136 at_135 rfl rfl ?_
          refine wkP.iconst 137 (2 : Int32) at_136 rfl rfl ?_
          refine wkP.newP 139 .char 2 2 (w4 g.1) rfl rfl rfl at_137 rfl (by decide) (by decide) (by decide) (by decide) rfl ?_
          intro h421 a421 g421 l421 K421 A421
          have z421 := K421.1
          replace A421 : Ia Z h421 a421 .char [(0 : Int32), (0 : Int32)] := A421
          refine wkP.dup 140 at_139 rfl rfl ?_
          refine wkP.iconst 141 (0 : Int32) at_140 rfl rfl ?_
          refine wkP.iload 143 at_141 rfl rfl ?_
          refine wkP.stC 144 0 c0 A421 at_143 rfl (by simp) (nar_c hk0) (by simp) rfl ?_
          intro h422 K422 A422
          have z422 := K422.1
          replace A422 : Ia Z h422 a421 .char [c0, (0 : Int32)] := A422
          refine wkP.dup 145 at_144 rfl rfl ?_
          refine wkP.iconst 146 (1 : Int32) at_145 rfl rfl ?_
          refine wkP.iload 148 at_146 rfl rfl ?_
          refine wkP.stC 149 1 c1 A422 at_148 rfl (by simp) (nar_c hk1) (by simp) rfl ?_
          intro h423 K423 A423
          have z423 := K423.1
          replace A423 : Ia Z h423 a421 .char [c0, c1] := A423
          have hch : chs [c0, c1] := by
            intro c hc
            simp only [List.mem_cons, List.not_mem_nil, or_false] at hc
            rcases hc with rfl | rfl
            · exact hk0
            · exact hk1
          have E418_424 := (((E418.keep K421).keep K422).keep K423)
          have F419_425 := (((F419.keep K421 nn0).keep K422 (nnS (by omega) nn0)).keep K423 (nnS (by omega) nn0))
          have F420_426 := (((F420.keep K421 nn0).keep K422 (nnS (by omega) nn0)).keep K423 (nnS (by omega) nn0))
          refine wkP.callI 152 (M_init1 l Z a0 g _ a418 a421 [c0, c1] A423 hch (by simp) _ _ E418_424 F419_425 F420_426) [(.ref a421)] [(.ref a418)] 1 g.2.1 (w5 g.1) (w6 g.1) (w3 g.1) (w7 g.1) rfl rfl (by decide) at_149 (lenOf pd34 rfl) rfl rfl rfl (by simp) (Nat.le_of_eq rfl) (by decide) (by decide) (by decide) (by decide) rfl ?_
          rintro v427 h427 o427 ⟨d427, rfl, rfl, H427⟩ K427
          have z427 := K427.1
          refine wkP.astore 154 #[.val (.int i0), .val (.int i1), .val (.int i2), .val (.int i3), .val (.int n), .val (.int c0), .val (.int c1), .val (.int c2), .val (.ref a418), .unset, .val (.int c0), .val (.int c1), .val (.int c2), .val (.int (120 : Int32)), .unset, .unset, .unset, .unset] at_152 rfl rfl rfl ?_
          refine wkP.iconst 155 (2 : Int32) at_154 rfl rfl ?_
          refine wkP.istore 157 #[.val (.int i0), .val (.int i1), .val (.int i2), .val (.int i3), .val (.int n), .val (.int c0), .val (.int c1), .val (.int c2), .val (.ref a418), .val (.int (2 : Int32)), .val (.int c0), .val (.int c1), .val (.int c2), .val (.int (120 : Int32)), .unset, .unset, .unset, .unset] at_155 rfl rfl ?_
          refine wkP.goto 190 at_157 (by decide) (by decide) ?_
          refine wkP.aload 192 at_190 rfl rfl rfl ?_
          refine wkP.callS 195 (M_mis l Z a0 g _ hst r2 a418 d427 [c0, c1] H427 (by simp)) [(.ref a418)] [] 0 g.2.1 (w23 g.1) (w24 g.1) (w25 g.1) (w26 g.1) (by decide) at_192 (lenOf pd35 rfl) rfl rfl rfl (by simp) (Nat.le_of_eq rfl) (by decide) (by decide) (by decide) (by decide) rfl ?_
          rintro v428 h428 o428 ⟨e, m, d, rfl, rfl, EE, FM, H⟩ K428
          have z428 := K428.1
          refine wkP.more (k1 := 30) (n1 := 6000) (by decide) (by decide) ?_
          exact T_law2 l Z a0 g _ _ _ _ _ _ _ _ _ _ _ a418 _ _ _ EE FM H
        · refine wkP.icmpT 160 at_129 (show ¬ n = (2 : Int32) from hn_2) (by decide) (by decide) ?_
          refine wkP.newO 163 (w1 g.1) (w2 g.1) (w3 g.1) at_160 (by decide) (by decide) rfl ?_
          intro h429 a429 g429 l429 K429 E429 D429 U429
          have z429 := K429.1
          have F430 := D429 (Or.inr (w18 g.1)) (ty := .byte) (by decide)
          have F431 := D429 (Or.inr (w17 g.1)) (ty := (.array .byte)) (by decide)
          refine wkP.dup 164 at_163 rfl rfl ?_
          refine wkP.iconst 165 (3 : Int32) at_164 rfl rfl ?_
          refine wkP.newP 167 .char 3 3 (w4 g.1) rfl rfl rfl at_165 rfl (by decide) (by decide) (by decide) (by decide) rfl ?_
          intro h432 a432 g432 l432 K432 A432
          have z432 := K432.1
          replace A432 : Ia Z h432 a432 .char [(0 : Int32), (0 : Int32), (0 : Int32)] := A432
          refine wkP.dup 168 at_167 rfl rfl ?_
          refine wkP.iconst 169 (0 : Int32) at_168 rfl rfl ?_
          refine wkP.iload 171 at_169 rfl rfl ?_
          refine wkP.stC 172 0 c0 A432 at_171 rfl (by simp) (nar_c hk0) (by simp) rfl ?_
          intro h433 K433 A433
          have z433 := K433.1
          replace A433 : Ia Z h433 a432 .char [c0, (0 : Int32), (0 : Int32)] := A433
          refine wkP.dup 173 at_172 rfl rfl ?_
          refine wkP.iconst 174 (1 : Int32) at_173 rfl rfl ?_
          refine wkP.iload 176 at_174 rfl rfl ?_
          refine wkP.stC 177 1 c1 A433 at_176 rfl (by simp) (nar_c hk1) (by simp) rfl ?_
          intro h434 K434 A434
          have z434 := K434.1
          replace A434 : Ia Z h434 a432 .char [c0, c1, (0 : Int32)] := A434
          refine wkP.dup 178 at_177 rfl rfl ?_
          refine wkP.iconst 179 (2 : Int32) at_178 rfl rfl ?_
          refine wkP.iload 181 at_179 rfl rfl ?_
          refine wkP.stC 182 2 c2 A434 at_181 rfl (by simp) (nar_c hk2) (by simp) rfl ?_
          intro h435 K435 A435
          have z435 := K435.1
          replace A435 : Ia Z h435 a432 .char [c0, c1, c2] := A435
          have hch : chs [c0, c1, c2] := by
            intro c hc
            simp only [List.mem_cons, List.not_mem_nil, or_false] at hc
            rcases hc with rfl | rfl | rfl
            · exact hk0
            · exact hk1
            · exact hk2
          have E429_436 := ((((E429.keep K432).keep K433).keep K434).keep K435)
          have F430_437 := ((((F430.keep K432 nn0).keep K433 (nnS (by omega) nn0)).keep K434 (nnS (by omega) nn0)).keep K435 (nnS (by omega) nn0))
          have F431_438 := ((((F431.keep K432 nn0).keep K433 (nnS (by omega) nn0)).keep K434 (nnS (by omega) nn0)).keep K435 (nnS (by omega) nn0))
          refine wkP.callI 185 (M_init1 l Z a0 g _ a429 a432 [c0, c1, c2] A435 hch (by simp) _ _ E429_436 F430_437 F431_438) [(.ref a432)] [(.ref a429)] 1 g.2.1 (w5 g.1) (w6 g.1) (w3 g.1) (w7 g.1) rfl rfl (by decide) at_182 (lenOf pd34 rfl) rfl rfl rfl (by simp) (Nat.le_of_eq rfl) (by decide) (by decide) (by decide) (by decide) rfl ?_
          rintro v439 h439 o439 ⟨d439, rfl, rfl, H439⟩ K439
          have z439 := K439.1
          refine wkP.astore 187 #[.val (.int i0), .val (.int i1), .val (.int i2), .val (.int i3), .val (.int n), .val (.int c0), .val (.int c1), .val (.int c2), .val (.ref a429), .unset, .val (.int c0), .val (.int c1), .val (.int c2), .val (.int (120 : Int32)), .unset, .unset, .unset, .unset] at_185 rfl rfl rfl ?_
          refine wkP.iconst 188 (3 : Int32) at_187 rfl rfl ?_
          refine wkP.istore 190 #[.val (.int i0), .val (.int i1), .val (.int i2), .val (.int i3), .val (.int n), .val (.int c0), .val (.int c1), .val (.int c2), .val (.ref a429), .val (.int (3 : Int32)), .val (.int c0), .val (.int c1), .val (.int c2), .val (.int (120 : Int32)), .unset, .unset, .unset, .unset] at_188 rfl rfl ?_
          refine wkP.aload 192 at_190 rfl rfl rfl ?_
          refine wkP.callS 195 (M_mis l Z a0 g _ hst r2 a429 d439 [c0, c1, c2] H439 (by simp)) [(.ref a429)] [] 0 g.2.1 (w23 g.1) (w24 g.1) (w25 g.1) (w26 g.1) (by decide) at_192 (lenOf pd35 rfl) rfl rfl rfl (by simp) (Nat.le_of_eq rfl) (by decide) (by decide) (by decide) (by decide) rfl ?_
          rintro v440 h440 o440 ⟨e, m, d, rfl, rfl, EE, FM, H⟩ K440
          have z440 := K440.1
          refine wkP.more (k1 := 30) (n1 := 6000) (by decide) (by decide) ?_
          exact T_law3 l Z a0 g _ _ _ _ _ _ _ _ _ _ _ a429 _ _ _ EE FM H
  · refine wkP.icmpF 49 at_46 (show ¬ (n < (4 : Int32)) from hlt) rfl ?_
    refine wkP.anull 50 at_49 rfl ?_
    refine wkP.astore 52 #[.val (.int i0), .val (.int i1), .val (.int i2), .val (.int i3), .val (.int n), .val (.int c0), .val (.int c1), .val (.int c2), .val .null, .unset, .val (.int c0), .val (.int c1), .val (.int c2), .val (.int (120 : Int32)), .unset, .unset, .unset, .unset] at_50 rfl rfl rfl ?_
    refine wkP.iconst 53 (4 : Int32) at_52 rfl rfl ?_
    refine wkP.istore 55 #[.val (.int i0), .val (.int i1), .val (.int i2), .val (.int i3), .val (.int n), .val (.int c0), .val (.int c1), .val (.int c2), .val .null, .val (.int (4 : Int32)), .val (.int c0), .val (.int c1), .val (.int c2), .val (.int (120 : Int32)), .unset, .unset, .unset, .unset] at_53 rfl rfl ?_
    refine wkP.bipush 57 (110 : Int32) at_55 rfl rfl ?_
    refine wkP.istore 59 #[.val (.int i0), .val (.int i1), .val (.int i2), .val (.int i3), .val (.int n), .val (.int c0), .val (.int c1), .val (.int c2), .val .null, .val (.int (4 : Int32)), .val (.int (110 : Int32)), .val (.int c1), .val (.int c2), .val (.int (120 : Int32)), .unset, .unset, .unset, .unset] at_57 rfl rfl ?_
    refine wkP.bipush 61 (117 : Int32) at_59 rfl rfl ?_
    refine wkP.istore 63 #[.val (.int i0), .val (.int i1), .val (.int i2), .val (.int i3), .val (.int n), .val (.int c0), .val (.int c1), .val (.int c2), .val .null, .val (.int (4 : Int32)), .val (.int (110 : Int32)), .val (.int (117 : Int32)), .val (.int c2), .val (.int (120 : Int32)), .unset, .unset, .unset, .unset] at_61 rfl rfl ?_
    refine wkP.bipush 65 (108 : Int32) at_63 rfl rfl ?_
    refine wkP.istore 67 #[.val (.int i0), .val (.int i1), .val (.int i2), .val (.int i3), .val (.int n), .val (.int c0), .val (.int c1), .val (.int c2), .val .null, .val (.int (4 : Int32)), .val (.int (110 : Int32)), .val (.int (117 : Int32)), .val (.int (108 : Int32)), .val (.int (120 : Int32)), .unset, .unset, .unset, .unset] at_65 rfl rfl ?_
    refine wkP.bipush 69 (108 : Int32) at_67 rfl rfl ?_
    refine wkP.istore 71 #[.val (.int i0), .val (.int i1), .val (.int i2), .val (.int i3), .val (.int n), .val (.int c0), .val (.int c1), .val (.int c2), .val .null, .val (.int (4 : Int32)), .val (.int (110 : Int32)), .val (.int (117 : Int32)), .val (.int (108 : Int32)), .val (.int (108 : Int32)), .unset, .unset, .unset, .unset] at_69 rfl rfl ?_
    refine wkP.goto 190 at_71 (by decide) (by decide) ?_
    refine wkP.aload 192 at_190 rfl rfl rfl ?_
    refine wkP.callS 195 (M_misN l Z a0 g _ hst r2) [.null] [] 0 g.2.1 (w23 g.1) (w24 g.1) (w25 g.1) (w26 g.1) (by decide) at_192 (lenOf pd35 rfl) rfl rfl rfl (by simp) (Nat.le_of_eq rfl) (by decide) (by decide) (by decide) (by decide) rfl ?_
    rintro v441 h441 o441 ⟨e, m, d, rfl, rfl, EE, FM, H⟩ K441
    have z441 := K441.1
    refine wkP.more (k1 := 30) (n1 := 6000) (by decide) (by decide) ?_
    exact T_law4 l Z a0 g _ _ _ _ _ _ _ _ _ _ _ 0 _ _ _ EE FM H
theorem own_EW {Z : State} {a0 : Array Value} (hw : ∀ d ∈ tables_1, d.before a0 Z = true) : EW Z a0 EL := by
  exact (EW.cons (text := " is required") (w96 hw) (by decide) (EW.cons (text := "") (w15 hw) (by decide) EW.nil))
theorem mKnown {s : State} (h : tablesKnown s = true) : s.vm.MethodsKnown := by
  intro m x hx
  cases hk : s.vm.classes[m.cls]? with
  | none => simp [Vm.method?, hk] at hx
  | some k =>
    refine ⟨k, hk, fun cf hcf => ?_⟩
    have hx' : k.methods[m.idx]? = some x := by simpa [Vm.method?, hk] using hx
    have hall := (Array.all_eq_true_iff_forall_mem.mp h) k (Array.mem_of_getElem? hk)
    have e : k.methods.size = cf.methods.size := by simpa [hcf] using hall
    obtain ⟨hi, -⟩ := Array.getElem?_eq_some_iff.mp hx'
    rw [Array.getElem?_eq_getElem (show m.idx < cf.methods.size by omega)]; rfl
theorem fKnown {s : State} {below : List Frame} {fr : Frame} (h : framesKnown s = true) (hf : s.frames = fr :: below) : s.vm.FramesKnown below := by
  intro y hy m' hm'
  have hall := List.all_eq_true.mp h y (by rw [hf]; simp [hy])
  have q : methodKnown s.vm m' = true := by
    cases y <;> simp [frameMethod?] at hm' <;> (subst hm'; exact hall)
  cases hk : s.vm.classes[m'.cls]? with
  | none => simp [methodKnown, hk] at q
  | some k =>
    refine ⟨k, hk, fun cf hcf => ?_⟩
    simpa [methodKnown, hk, hcf] using q
set_option maxRecDepth 65536 in
set_option maxHeartbeats 4000000 in
theorem comes_1 {Post : Tables → Env → Array Value → State → Outcome → State → Prop} (hpost : ∀ tb e args s v u, (limb_1_1.after args s (.returned v) u = true ∧ limb_1_2.after args s (.returned v) u = true ∧ True) → FramedW s (.returned v) u (Jvm.fieldLocs frame_1_writes args s ++ Jvm.arrayLocs frame_1_arrays args s ++ Jvm.staticLocs frame_1_statics s) 40 7872 → Post tb e args s (.returned v) u) :
    ArmFor flags0 classFile x code maxLocals ret World_1 tables_1 room_1 Calls_1 rest_1 Pre_1 Post := by
  intro l hfl _ _ p e ha hc hk s m args below hf hA hF happ hP
  obtain ⟨hcalls, hrest, hpre⟩ := hP
  obtain ⟨-, -, -, hnamed, -, -, -, hat⟩ := (Spec.applies_iff hf).mp happ
  obtain ⟨hg, hn⟩ := and_e (Cond.before_iff.mp (show (Jvm.Cond.and given_1 narrow_1).before args s = true from hpre))
  obtain ⟨q0, hg⟩ := and_e hg
  obtain ⟨q1, hg⟩ := and_e hg
  obtain ⟨q2, hg⟩ := and_e hg
  obtain ⟨q3, hg⟩ := and_e hg
  have q4 := hg
  obtain ⟨u0, u1, u2, u3, rfl⟩ : ∃ u0 u1 u2 u3 : Value, args = #[u0, u1, u2, u3] := by
    have hs : args.size = 4 := by simpa [Cond.value, given_1] using q0
    obtain ⟨L⟩ := args
    match L, hs with
    | [u0, u1, u2, u3], _ => exact ⟨u0, u1, u2, u3, rfl⟩
  have hw := fun d (hd : d ∈ tables_1) => atoms_spec (ws := Jvm.Cond.code x code maxLocals ret :: tables_1) hat d (List.mem_cons_of_mem _ hd)
  obtain ⟨hsets, hown0⟩ := atoms_of _ (rest_1_c_eq ▸ (show rest_1_c.before _ s = true from hrest))
  obtain ⟨i0, e0⟩ := is_v q1
  obtain rfl : u0 = (.int i0) := Option.some.inj e0
  obtain ⟨i1, e1⟩ := is_v q2
  obtain rfl : u1 = (.int i1) := Option.some.inj e1
  obtain ⟨i2, e2⟩ := is_v q3
  obtain rfl : u2 = (.int i2) := Option.some.inj e2
  obtain ⟨i3, e3⟩ := is_v q4
  obtain rfl : u3 = (.int i3) := Option.some.inj e3
  have n3 := not_v (Cond.before_iff.mp (hsets _ (List.mem_of_getElem? (i := 2) rfl)))
  obtain ⟨zc, ezc⟩ := is_v (Cond.before_iff.mp (hsets _ (List.mem_of_getElem? (i := 1) rfl)))
  have S8 : Sta s s.heap "java/lang/String" "COMPACT_STRINGS" "Z" (.int zc) := Sta.start ezc (Or.inl (hsets _ (List.mem_of_getElem? (i := 0) rfl)))
  have c13 : ¬ (zc = (0 : Int32)) := gotF (Cond.eq_ints ezc (Term.int_eval (0))) n3
  obtain ⟨fm, efm, rfm⟩ := isR_v (Cond.before_iff.mp (hsets _ (List.mem_of_getElem? (i := 8) rfl)))
  have S9 : Sta s s.heap "jdk/internal/util/Preconditions" "SIOOBE_FORMATTER" "Ljava/util/function/BiFunction;" fm := Sta.start efm (Or.inl (hsets _ (List.mem_of_getElem? (i := 7) rfl)))
  have T0 : Sta s s.heap "java/lang/StringUTF16" "$assertionsDisabled" "Z" (.int 1) := Sta.start (Cond.eq_int (hsets _ (List.mem_of_getElem? (i := 32) rfl)) rfl) (Or.inl (hsets _ (List.mem_of_getElem? (i := 31) rfl)))
  have T1 : Sta s s.heap "java/lang/StringUTF16" "HI_BYTE_SHIFT" "I" (.int 0) := Sta.start (Cond.eq_int (hsets _ (List.mem_of_getElem? (i := 35) rfl)) rfl) (Or.inl (hsets _ (List.mem_of_getElem? (i := 34) rfl)))
  have T2 : Sta s s.heap "java/lang/StringUTF16" "LO_BYTE_SHIFT" "I" (.int 8) := Sta.start (Cond.eq_int (hsets _ (List.mem_of_getElem? (i := 38) rfl)) rfl) (Or.inl (hsets _ (List.mem_of_getElem? (i := 37) rfl)))
  have hE := own_EW hw
  have hCH : CHv s EL s.vm s.heap := CHv.start hE (fun q hq => hcalls.2.2.1 q hq) (hsets _ (List.mem_of_getElem? (i := 2) rfl)) (sAtoms hw _ (by simp [Bundle.stringAtoms])) (sAtoms hw _ (by simp [Bundle.stringAtoms, Bundle.sN]))
  obtain ⟨u0', ev0, hr0⟩ := Cond.isRef_spec (hsets _ (List.mem_of_getElem? (i := 16) rfl))
  obtain ⟨u1', ev1, hr1⟩ := Cond.isRef_spec (hsets _ (List.mem_of_getElem? (i := 21) rfl))
  have r2 : ∃ u sen : Value, u.isRef = true ∧ sen.isRef = true ∧ Sta s s.heap "java/lang/Throwable" "UNASSIGNED_STACK" "[Ljava/lang/StackTraceElement;" u ∧ Sta s s.heap "java/lang/Throwable" "SUPPRESSED_SENTINEL" "Ljava/util/List;" sen := ⟨u0', u1', hr0, hr1, Sta.start ev0 (Or.inr ⟨(w160 hw), (w191 hw)⟩), Sta.start ev1 (Or.inr ⟨(w160 hw), (w192 hw)⟩)⟩
  have hst : l.stackTraces = true := by rw [Launch.stackTraces, hfl]; decide +kernel
  obtain ⟨b1, b2, b3, b4, b5, b6, b7, -⟩ := (Spec.appliesLoose_iff hf).mp ((Spec.applies_iff_loose hf).mp happ).1
  have hcode := atoms_spec (ws := Jvm.Cond.code x code maxLocals ret :: tables_1) hat _ (List.mem_cons_self ..)
  have hap : (head1 [Jvm.Cond.code x code maxLocals ret] room_1).appliesLoose x e.platform s = true := (Spec.appliesLoose_iff hf).mpr ⟨b1, b2, b3, b4, b5, b6, b7, by show (Jvm.Cond.and _ .tt).before _ s = true; rw [Cond.before_and, hcode]; rfl⟩
  obtain ⟨n, o, h1, h2, h3, v, L, rfl, ⟨os, rfl, -, N, -, -⟩, -, hq⟩ := M_law l s _ ⟨hw, hE, ⟨zc, S8, c13⟩, ⟨fm, S9, rfm⟩, T0, T1, T2⟩ hst r2 s.heap i0 i1 i2 i3 (Old.start s) (by simp) p e ha hc hk s m _ below hf hap ⟨rfl, State.Warmed39.refl s, rfl, hCH, by simp⟩ ⟨mKnown hcalls.2.1, fKnown hcalls.1 hf⟩
  exact ⟨n, _, h1, h2, h3, hpost _ _ _ _ _ _ ⟨Cond.after_iff.mpr rfl, Cond.after_iff.mpr (eq_i res_at (Term.int_eval (1)) rfl), trivial⟩ ⟨hq.1, hq.2.1, hq.2.2.1, (hq.2.2.2.sift fun y hy => Or.inr (N y hy)).mono (by decide) (by decide)⟩⟩
theorem main_1_1 : Claimed_1_1 := comes_1 fun _ _ _ _ _ _ h hF => ⟨h.1, hF⟩
theorem main_1_2 : Claimed_1_2 := comes_1 fun _ _ _ _ _ _ h hF => ⟨h.2.1, hF⟩
end Jvm.Pilot.@@N@@
namespace Jvm.Pilot.@@N@@
open Jvm Jvm.ClassFile Sem Op Lib Jvm.Free Jvm.Stand Jvm.Pilot.@@N@@.Jvm.D
/-! MADE BY PROGRAM (witnessworld.py) out of the Statement's table words and the real class files: 44 classes; the members and pool entries that the words name. The judged class is class 1, her method 1. -/
namespace start1
open Jvm.ClassFile
def u (s : String) : CpInfo := .utf8 (stringToUtf16 s)
/-- a pool by its gaps: so many unusable entries, then the entry; so many at the end -/
def gap : Nat → List CpInfo → List CpInfo
  | 0, r => r
  | n + 1, r => .unusable :: gap n r
def poolList (es : List (Nat × CpInfo)) (last : Nat) : List CpInfo := es.foldr (fun e r => gap e.1 (e.2 :: r)) (gap last [])
def pool (es : List (Nat × CpInfo)) (last : Nat) : Array CpInfo := ⟨poolList es last⟩
def fileOf (pool : Array CpInfo) (this : Nat) (attrs : Array Attribute := #[]) (ms : Array MethodInfo := #[]) (fl : Nat := 33) (sup : Nat := 0) (ifs : Array Nat := #[]) (fds : Array FieldInfo := #[]) : ClassFile where
  minorVersion := 0
  majorVersion := 65
  constantPool := pool
  accessFlags := fl
  thisClass := this
  superClass := sup
  interfaces := ifs
  fields := fds
  methods := ms
  attributes := attrs
def plain (name : String) (sup : Option ClassId) : Class where
  name := name
  kind := .ordinary
  loader := none
  accessFlags := 33
  super := sup
  interfaces := #[]
  cf := none
  fields := #[]
  methods := #[]
  instanceTypes := #[]
  staticTypes := #[]
  resolved := #[]
  callSites := []
  init := .initialized
  statics := none
  mirror := none

def pool0 : Array CpInfo := pool [(5, u "<init>"), (0, u "()V"), (1, .class_ 10), (1, u "java/lang/Object"), (85, u "clone"), (0, u "()Ljava/lang/Object;")] 26

def k0c0 : Code := { maxStack := 0, maxLocals := 1, code := object_method_1_code, exceptionTable := #[], attributes := #[] }
def k0m0 : Method := { name := "<init>", desc := "()V", sig := { parameters := [], returnType := none }, accessFlags := 1, code := some k0c0 }
def k0m1 : Method := { name := "clone", desc := "()Ljava/lang/Object;", sig := { parameters := [], returnType := some (.object "java/lang/Object") }, accessFlags := 260, code := none }
/-- java/lang/Object -/
def k0 : Class := { plain "java/lang/Object" none with
  accessFlags := 33
  interfaces := #[]
  cf := some (fileOf pool0 8 #[] #[{ accessFlags := 1, nameIndex := 5, descriptorIndex := 6, attributes := #[] }, { accessFlags := 260, nameIndex := 96, descriptorIndex := 97, attributes := #[] }] 33 0 #[] #[])
  fields := #[]
  methods := #[k0m0, k0m1]
  instanceTypes := #[]
  staticTypes := #[]
  resolved := Array.replicate 124 none
  statics := none }

def pool1 : Array CpInfo := pool [(2, .class_ 4), (1, u "java/lang/Object"), (0, u "<init>"), (0, u "()V"), (0, .integer 65535), (0, .class_ 9), (0, u "java/lang/String"), (0, .methodref 8 11), (0, .nameAndType 5 12), (0, u "([C)V"), (0, .methodref 14 15), (0, .class_ 16), (0, .nameAndType 17 18), (0, u "com/example/sieve_for_sparql/sieveforsparql/Options"), (0, u "missing"), (0, u "(Ljava/lang/String;)Lcom/example/sieve_for_sparql/sieveforsparql/InputException;"), (0, .methodref 20 21), (0, .class_ 22), (0, .nameAndType 23 24), (0, u "com/example/sieve_for_sparql/sieveforsparql/InputException"), (0, u "getMessage"), (0, u "()Ljava/lang/String;"), (0, .methodref 8 26), (0, .nameAndType 27 28), (0, u "length"), (0, u "()I"), (0, .methodref 8 30), (0, .nameAndType 31 32), (0, u "charAt"), (0, u "(I)C"), (0, .class_ 34), (0, u "com/example/sieve_for_sparql/sieveforsparql/OptionsMissingPinLaw"), (2, u "law"), (0, u "(IIII)Z")] 3

def k1m0 : Method := { name := "<init>", desc := "()V", sig := { parameters := [], returnType := none }, accessFlags := 1, code := none }
def k1c1 : Code := { maxStack := 6, maxLocals := 18, code := code, exceptionTable := #[], attributes := #[] }
def k1m1 : Method := { name := "law", desc := "(IIII)Z", sig := { parameters := [.int, .int, .int, .int], returnType := some .boolean }, accessFlags := 9, code := some k1c1 }
/-- com/example/sieve_for_sparql/sieveforsparql/OptionsMissingPinLaw -/
def k1 : Class := { plain "com/example/sieve_for_sparql/sieveforsparql/OptionsMissingPinLaw" (some 0) with
  accessFlags := 49
  interfaces := #[]
  cf := some (fileOf pool1 33 #[] #[{ accessFlags := 1, nameIndex := 5, descriptorIndex := 6, attributes := #[] }, { accessFlags := 9, nameIndex := 37, descriptorIndex := 38, attributes := #[] }] 49 2 #[] #[])
  fields := #[]
  methods := #[k1m0, k1m1]
  instanceTypes := #[]
  staticTypes := #[]
  resolved := Array.replicate 42 none
  statics := none }

def pool2 : Array CpInfo := pool [(1, .class_ 2), (0, u "java/io/Serializable"), (0, .class_ 4), (0, u "java/lang/Object")] 2

/-- java/io/Serializable -/
def k2 : Class := { plain "java/io/Serializable" (some 0) with
  accessFlags := 1537
  interfaces := #[]
  cf := some (fileOf pool2 1 #[] #[] 1537 3 #[] #[])
  fields := #[]
  methods := #[]
  instanceTypes := #[]
  staticTypes := #[]
  resolved := Array.replicate 7 none
  statics := none }

def pool3 : Array CpInfo := pool [(1, .class_ 2), (0, u "java/lang/Comparable"), (0, .class_ 4), (0, u "java/lang/Object")] 7

/-- java/lang/Comparable -/
def k3 : Class := { plain "java/lang/Comparable" (some 0) with
  accessFlags := 1537
  interfaces := #[]
  cf := some (fileOf pool3 1 #[] #[] 1537 3 #[] #[])
  fields := #[]
  methods := #[]
  instanceTypes := #[]
  staticTypes := #[]
  resolved := Array.replicate 12 none
  statics := none }

def pool4 : Array CpInfo := pool [(2, .class_ 4), (1, u "java/lang/CharSequence"), (42, .class_ 48), (0, u "java/lang/CharSequence$1CodePointIterator"), (10, .class_ 60), (0, u "java/lang/CharSequence$1CharIterator"), (5, .class_ 67), (0, u "java/lang/Object")] 63

/-- java/lang/CharSequence -/
def k4 : Class := { plain "java/lang/CharSequence" (some 0) with
  accessFlags := 1537
  interfaces := #[]
  cf := some (fileOf pool4 2 #[.nestMembers #[47, 59]] #[] 1537 66 #[] #[])
  fields := #[]
  methods := #[]
  instanceTypes := #[]
  staticTypes := #[]
  resolved := Array.replicate 131 none
  statics := none }

def pool5 : Array CpInfo := pool [(1, .class_ 2), (0, u "java/lang/constant/Constable"), (0, .class_ 4), (0, u "java/lang/Object")] 6

/-- java/lang/constant/Constable -/
def k5 : Class := { plain "java/lang/constant/Constable" (some 0) with
  accessFlags := 1537
  interfaces := #[]
  cf := some (fileOf pool5 1 #[] #[] 1537 3 #[] #[])
  fields := #[]
  methods := #[]
  instanceTypes := #[]
  staticTypes := #[]
  resolved := Array.replicate 11 none
  statics := none }

def pool6 : Array CpInfo := pool [(1, .class_ 2), (0, u "java/lang/constant/ConstantDesc"), (0, .class_ 4), (0, u "java/lang/Object")] 32

/-- java/lang/constant/ConstantDesc -/
def k6 : Class := { plain "java/lang/constant/ConstantDesc" (some 0) with
  accessFlags := 1537
  interfaces := #[]
  cf := some (fileOf pool6 1 #[] #[] 1537 3 #[] #[])
  fields := #[]
  methods := #[]
  instanceTypes := #[]
  staticTypes := #[]
  resolved := Array.replicate 37 none
  statics := none }

def pool7 : Array CpInfo := pool [(1, .methodref 2 3), (0, .class_ 4), (0, .nameAndType 5 6), (0, u "java/lang/Object"), (0, u "<init>"), (0, u "()V"), (0, .string 8), (0, u ""), (0, .fieldref 10 11), (0, .class_ 12), (0, .nameAndType 13 14), (0, u "java/lang/String"), (0, u "value"), (0, u "[B"), (0, .fieldref 10 16), (0, .nameAndType 17 18), (0, u "coder"), (0, u "B"), (2, u "hash"), (0, u "I"), (2, u "hashIsZero"), (0, u "Z"), (0, .methodref 10 28), (0, .nameAndType 5 29), (0, u "([CIILjava/lang/Void;)V"), (6, u "checkBoundsOffCount"), (0, u "(III)I"), (0, .fieldref 10 39), (0, .nameAndType 40 26), (0, u "COMPACT_STRINGS"), (1, .class_ 44), (1, u "java/lang/StringUTF16"), (0, u "compress"), (1, .methodref 42 48), (0, .nameAndType 49 50), (0, u "coderFromArrayLen"), (0, u "([BI)B"), (3, .methodref 55 56), (0, .class_ 57), (0, .nameAndType 58 59), (0, u "java/util/Arrays"), (0, u "copyOfRange"), (0, u "([BII)[B"), (46, .methodref 107 108), (0, .class_ 109), (0, .nameAndType 110 111), (0, u "java/lang/StringLatin1"), (0, u "inflate"), (0, u "([BI[BII)V"), (30, u "()Z"), (34, .methodref 42 178), (0, .nameAndType 45 179), (0, u "([CII)[B"), (13, .class_ 195), (1, u "java/lang/System"), (16, .methodref 193 213), (0, .nameAndType 214 215), (0, u "arraycopy"), (0, u "(Ljava/lang/Object;ILjava/lang/Object;II)V"), (118, u "()I"), (0, .methodref 10 336), (0, .nameAndType 17 337), (0, u "()B"), (2, u "()[B"), (22, u "([BI)C"), (27, u "(II)V"), (35, u "(I)C"), (61, .methodref 10 490), (0, .nameAndType 5 491), (0, u "(Ljava/lang/AbstractStringBuilder;Ljava/lang/Void;)V"), (0, .methodref 10 493), (0, .nameAndType 494 142), (0, u "isLatin1"), (0, .methodref 107 496), (0, .nameAndType 497 363), (0, u "charAt"), (0, .methodref 42 496), (2, u "checkIndex"), (4, .nameAndType 507 334), (0, u "length"), (24, u "getBytes"), (16, .methodref 550 506), (0, .class_ 551), (0, u "java/lang/AbstractStringBuilder"), (0, .methodref 550 553), (0, .nameAndType 554 340), (0, u "getValue"), (20, .class_ 576), (0, u "java/lang/CharSequence"), (22, u "CASE_INSENSITIVE_ORDER"), (0, u "Ljava/util/Comparator;"), (220, u "([BIB)V"), (188, u "([C)V"), (36, .methodref 550 493), (0, .fieldref 550 1049), (0, .nameAndType 1050 26), (0, u "maybeLatin1"), (2, .fieldref 1054 1055), (0, .class_ 1056), (0, .nameAndType 1057 1058), (0, u "jdk/internal/util/Preconditions"), (0, u "SIOOBE_FORMATTER"), (0, u "Ljava/util/function/BiFunction;"), (0, .methodref 1054 1060), (0, .nameAndType 501 1061), (0, u "(IILjava/util/function/BiFunction;)I"), (2, u "(IIILjava/util/function/BiFunction;)I"), (0, .methodref 1054 1066), (0, .nameAndType 1067 1064), (0, u "checkFromIndexSize"), (33, u "serialPersistentFields"), (0, u "[Ljava/io/ObjectStreamField;"), (0, .class_ 1104), (0, u "java/lang/String$CaseInsensitiveComparator"), (1, .class_ 1107), (0, u "java/io/Serializable"), (0, .class_ 1109), (0, u "java/lang/Comparable"), (0, .class_ 1111), (0, u "java/lang/constant/Constable"), (0, .class_ 1113), (0, u "java/lang/constant/ConstantDesc"), (2, u "serialVersionUID"), (0, u "J"), (3, u "REPL"), (0, u "C"), (2, u "LATIN1"), (1, u "UTF16"), (105, u "(Ljava/lang/StringBuilder;)V")] 217

def k7m0 : Method := { name := "<init>", desc := "()V", sig := { parameters := [], returnType := none }, accessFlags := 1, code := none }
def k7c1 : Code := { maxStack := 5, maxLocals := 2, code := jdk_42_method_3_code, exceptionTable := #[], attributes := #[] }
def k7m1 : Method := { name := "<init>", desc := "([C)V", sig := { parameters := [(.array .char)], returnType := none }, accessFlags := 1, code := some k7c1 }
def k7c2 : Code := { maxStack := 3, maxLocals := 2, code := jdk_42_method_53_code, exceptionTable := #[], attributes := #[] }
def k7m2 : Method := { name := "<init>", desc := "(Ljava/lang/StringBuilder;)V", sig := { parameters := [(.object "java/lang/StringBuilder")], returnType := none }, accessFlags := 1, code := some k7c2 }
def k7c3 : Code := { maxStack := 2, maxLocals := 1, code := jdk_42_method_54_code, exceptionTable := #[], attributes := #[] }
def k7m3 : Method := { name := "length", desc := "()I", sig := { parameters := [], returnType := some .int }, accessFlags := 1, code := some k7c3 }
def k7c4 : Code := { maxStack := 2, maxLocals := 2, code := jdk_42_method_56_code, exceptionTable := #[], attributes := #[] }
def k7m4 : Method := { name := "charAt", desc := "(I)C", sig := { parameters := [.int], returnType := some .char }, accessFlags := 1, code := some k7c4 }
def k7c5 : Code := { maxStack := 5, maxLocals := 4, code := jdk_42_method_147_code, exceptionTable := #[], attributes := #[] }
def k7m5 : Method := { name := "getBytes", desc := "([BIB)V", sig := { parameters := [(.array .byte), .int, .byte], returnType := none }, accessFlags := 0, code := some k7c5 }
def k7c6 : Code := { maxStack := 4, maxLocals := 6, code := jdk_42_method_149_code, exceptionTable := #[], attributes := #[] }
def k7m6 : Method := { name := "<init>", desc := "([CIILjava/lang/Void;)V", sig := { parameters := [(.array .char), .int, .int, (.object "java/lang/Void")], returnType := none }, accessFlags := 2, code := some k7c6 }
def k7c7 : Code := { maxStack := 5, maxLocals := 5, code := jdk_42_method_150_code, exceptionTable := #[], attributes := #[] }
def k7m7 : Method := { name := "<init>", desc := "(Ljava/lang/AbstractStringBuilder;Ljava/lang/Void;)V", sig := { parameters := [(.object "java/lang/AbstractStringBuilder"), (.object "java/lang/Void")], returnType := none }, accessFlags := 0, code := some k7c7 }
def k7c8 : Code := { maxStack := 1, maxLocals := 1, code := jdk_42_method_152_code, exceptionTable := #[], attributes := #[] }
def k7m8 : Method := { name := "coder", desc := "()B", sig := { parameters := [], returnType := some .byte }, accessFlags := 0, code := some k7c8 }
def k7c9 : Code := { maxStack := 1, maxLocals := 1, code := jdk_42_method_154_code, exceptionTable := #[], attributes := #[] }
def k7m9 : Method := { name := "isLatin1", desc := "()Z", sig := { parameters := [], returnType := some .boolean }, accessFlags := 0, code := some k7c9 }
def k7c10 : Code := { maxStack := 3, maxLocals := 2, code := jdk_42_method_155_code, exceptionTable := #[], attributes := #[] }
def k7m10 : Method := { name := "checkIndex", desc := "(II)V", sig := { parameters := [.int, .int], returnType := none }, accessFlags := 8, code := some k7c10 }
def k7c11 : Code := { maxStack := 4, maxLocals := 3, code := jdk_42_method_157_code, exceptionTable := #[], attributes := #[] }
def k7m11 : Method := { name := "checkBoundsOffCount", desc := "(III)I", sig := { parameters := [.int, .int, .int], returnType := some .int }, accessFlags := 8, code := some k7c11 }
/-- java/lang/String -/
def k7 : Class := { plain "java/lang/String" (some 0) with
  accessFlags := 49
  interfaces := #[2, 3, 4, 5, 6]
  cf := some (fileOf pool7 10 #[.nestMembers #[1103]] #[{ accessFlags := 1, nameIndex := 5, descriptorIndex := 6, attributes := #[] }, { accessFlags := 1, nameIndex := 5, descriptorIndex := 1010, attributes := #[] }, { accessFlags := 1, nameIndex := 5, descriptorIndex := 1233, attributes := #[] }, { accessFlags := 1, nameIndex := 507, descriptorIndex := 334, attributes := #[] }, { accessFlags := 1, nameIndex := 497, descriptorIndex := 427, attributes := #[] }, { accessFlags := 0, nameIndex := 532, descriptorIndex := 821, attributes := #[] }, { accessFlags := 2, nameIndex := 5, descriptorIndex := 29, attributes := #[] }, { accessFlags := 0, nameIndex := 5, descriptorIndex := 491, attributes := #[] }, { accessFlags := 0, nameIndex := 17, descriptorIndex := 337, attributes := #[] }, { accessFlags := 0, nameIndex := 494, descriptorIndex := 142, attributes := #[] }, { accessFlags := 8, nameIndex := 501, descriptorIndex := 391, attributes := #[] }, { accessFlags := 8, nameIndex := 36, descriptorIndex := 37, attributes := #[] }] 49 2 #[1106, 1108, 575, 1110, 1112] #[{ accessFlags := 18, nameIndex := 13, descriptorIndex := 14, attributes := #[] }, { accessFlags := 18, nameIndex := 17, descriptorIndex := 18, attributes := #[] }, { accessFlags := 2, nameIndex := 21, descriptorIndex := 22, attributes := #[] }, { accessFlags := 2, nameIndex := 25, descriptorIndex := 26, attributes := #[] }, { accessFlags := 26, nameIndex := 1116, descriptorIndex := 1117, attributes := #[] }, { accessFlags := 24, nameIndex := 40, descriptorIndex := 26, attributes := #[] }, { accessFlags := 26, nameIndex := 1101, descriptorIndex := 1102, attributes := #[] }, { accessFlags := 26, nameIndex := 1121, descriptorIndex := 1122, attributes := #[] }, { accessFlags := 25, nameIndex := 599, descriptorIndex := 600, attributes := #[] }, { accessFlags := 24, nameIndex := 1125, descriptorIndex := 18, attributes := #[] }, { accessFlags := 24, nameIndex := 1127, descriptorIndex := 18, attributes := #[] }])
  fields := #[{ name := "value", type := (.array .byte), accessFlags := 18, slot := 0, constantValue := 0 }, { name := "coder", type := .byte, accessFlags := 18, slot := 1, constantValue := 0 }, { name := "hash", type := .int, accessFlags := 2, slot := 2, constantValue := 0 }, { name := "hashIsZero", type := .boolean, accessFlags := 2, slot := 3, constantValue := 0 }, { name := "serialVersionUID", type := .long, accessFlags := 26, slot := 0, constantValue := 0 }, { name := "COMPACT_STRINGS", type := .boolean, accessFlags := 24, slot := 1, constantValue := 0 }, { name := "serialPersistentFields", type := (.array (.object "java/io/ObjectStreamField")), accessFlags := 26, slot := 2, constantValue := 0 }, { name := "REPL", type := .char, accessFlags := 26, slot := 3, constantValue := 0 }, { name := "CASE_INSENSITIVE_ORDER", type := (.object "java/util/Comparator"), accessFlags := 25, slot := 4, constantValue := 0 }, { name := "LATIN1", type := .byte, accessFlags := 24, slot := 5, constantValue := 0 }, { name := "UTF16", type := .byte, accessFlags := 24, slot := 6, constantValue := 0 }]
  methods := #[k7m0, k7m1, k7m2, k7m3, k7m4, k7m5, k7m6, k7m7, k7m8, k7m9, k7m10, k7m11]
  instanceTypes := #[(.array .byte), .byte, .int, .boolean]
  staticTypes := #[.long, .boolean, (.array (.object "java/io/ObjectStreamField")), .char, (.object "java/util/Comparator"), .byte, .byte]
  resolved := Array.replicate 1451 none
  statics := some 0 }

def pool8 : Array CpInfo := pool [(2, .class_ 4), (1, u "java/lang/Object"), (0, u "<init>"), (0, u "()V"), (0, .class_ 8), (0, u "java/lang/Record")] 13

def k8m0 : Method := { name := "<init>", desc := "()V", sig := { parameters := [], returnType := none }, accessFlags := 4, code := none }
/-- java/lang/Record -/
def k8 : Class := { plain "java/lang/Record" (some 0) with
  accessFlags := 1057
  interfaces := #[]
  cf := some (fileOf pool8 7 #[] #[{ accessFlags := 4, nameIndex := 5, descriptorIndex := 6, attributes := #[] }] 1057 2 #[] #[])
  fields := #[]
  methods := #[k8m0]
  instanceTypes := #[]
  staticTypes := #[]
  resolved := Array.replicate 22 none
  statics := none }

def pool9 : Array CpInfo := pool [(2, .class_ 4), (0, .nameAndType 5 6), (0, u "java/lang/Record"), (0, u "<init>"), (0, u "()V"), (1, .class_ 10), (1, u "com/example/sieve_for_sparql/sieveforsparql/Options"), (0, u "values"), (0, u "Ljava/util/Map;"), (2, u "operands"), (0, u "Ljava/util/List;"), (34, .class_ 52), (0, u "com/example/sieve_for_sparql/sieveforsparql/InputException"), (0, .class_ 54), (0, u "java/lang/StringBuilder"), (0, .methodref 53 3), (0, .methodref 53 57), (0, .nameAndType 58 59), (0, u "append"), (0, u "(Ljava/lang/String;)Ljava/lang/StringBuilder;"), (2, .methodref 53 63), (0, .nameAndType 64 65), (0, u "toString"), (0, u "()Ljava/lang/String;"), (0, .methodref 51 67), (0, .nameAndType 5 68), (0, u "(Ljava/lang/String;)V"), (78, u "missing"), (0, u "(Ljava/lang/String;)Lcom/example/sieve_for_sparql/sieveforsparql/InputException;"), (39, .string 189), (0, u " is required")] 111

def k9c0 : Code := { maxStack := 4, maxLocals := 1, code := prog_4_method_10_code, exceptionTable := #[], attributes := #[] }
def k9m0 : Method := { name := "missing", desc := "(Ljava/lang/String;)Lcom/example/sieve_for_sparql/sieveforsparql/InputException;", sig := { parameters := [(.object "java/lang/String")], returnType := some (.object "com/example/sieve_for_sparql/sieveforsparql/InputException") }, accessFlags := 8, code := some k9c0 }
/-- com/example/sieve_for_sparql/sieveforsparql/Options -/
def k9 : Class := { plain "com/example/sieve_for_sparql/sieveforsparql/Options" (some 8) with
  accessFlags := 48
  interfaces := #[]
  cf := some (fileOf pool9 8 #[] #[{ accessFlags := 8, nameIndex := 147, descriptorIndex := 148, attributes := #[] }] 48 2 #[] #[{ accessFlags := 18, nameIndex := 11, descriptorIndex := 12, attributes := #[] }, { accessFlags := 18, nameIndex := 15, descriptorIndex := 16, attributes := #[] }])
  fields := #[{ name := "values", type := (.object "java/util/Map"), accessFlags := 18, slot := 0, constantValue := 0 }, { name := "operands", type := (.object "java/util/List"), accessFlags := 18, slot := 1, constantValue := 0 }]
  methods := #[k9m0]
  instanceTypes := #[(.object "java/util/Map"), (.object "java/util/List")]
  staticTypes := #[]
  resolved := Array.replicate 301 none
  statics := none }

def pool10 : Array CpInfo := pool [(1, .methodref 2 3), (0, .class_ 4), (0, .nameAndType 5 6), (0, u "java/lang/Object"), (0, u "<init>"), (0, u "()V"), (0, .fieldref 8 9), (0, .class_ 10), (0, .nameAndType 11 12), (0, u "java/lang/Throwable"), (0, u "cause"), (0, u "Ljava/lang/Throwable;"), (0, .fieldref 8 14), (0, .nameAndType 15 16), (0, u "UNASSIGNED_STACK"), (0, u "[Ljava/lang/StackTraceElement;"), (0, .fieldref 8 18), (0, .nameAndType 19 16), (0, u "stackTrace"), (0, .fieldref 8 21), (0, .nameAndType 22 23), (0, u "SUPPRESSED_SENTINEL"), (0, u "Ljava/util/List;"), (0, .fieldref 8 25), (0, .nameAndType 26 23), (0, u "suppressedExceptions"), (0, .methodref 8 28), (0, .nameAndType 29 30), (0, u "fillInStackTrace"), (0, u "()Ljava/lang/Throwable;"), (0, .fieldref 8 32), (0, .nameAndType 33 34), (0, u "detailMessage"), (0, u "Ljava/lang/String;"), (3, u "()Ljava/lang/String;"), (2, u "getMessage"), (51, .class_ 94), (0, u "java/lang/Throwable$WrappedPrintStream"), (6, .class_ 103), (1, u "java/lang/Throwable$PrintStreamOrWriter"), (61, u "$assertionsDisabled"), (0, u "Z"), (26, .class_ 194), (0, u "java/lang/Throwable$WrappedPrintWriter"), (3, .fieldref 8 199), (0, .nameAndType 200 201), (0, u "backtrace"), (0, u "Ljava/lang/Object;"), (0, .methodref 8 203), (0, .nameAndType 29 204), (0, u "(I)Ljava/lang/Throwable;"), (6, u "depth"), (0, u "I"), (10, u "(Ljava/lang/String;)V"), (45, .class_ 271), (1, u "java/lang/Throwable$SentinelHolder"), (32, u "EMPTY_THROWABLE_ARRAY"), (0, u "[Ljava/lang/Throwable;"), (12, .class_ 319), (0, u "java/io/Serializable"), (0, u "serialVersionUID"), (0, u "J"), (5, u "NULL_CAUSE_MESSAGE"), (0, u "SELF_SUPPRESSION_MESSAGE"), (0, u "CAUSE_CAPTION"), (0, u "SUPPRESSED_CAPTION")] 73

def k10c0 : Code := { maxStack := 2, maxLocals := 1, code := jdk_78_method_1_code, exceptionTable := #[], attributes := #[] }
def k10m0 : Method := { name := "<init>", desc := "()V", sig := { parameters := [], returnType := none }, accessFlags := 1, code := some k10c0 }
def k10c1 : Code := { maxStack := 2, maxLocals := 2, code := jdk_78_method_2_code, exceptionTable := #[], attributes := #[] }
def k10m1 : Method := { name := "<init>", desc := "(Ljava/lang/String;)V", sig := { parameters := [(.object "java/lang/String")], returnType := none }, accessFlags := 1, code := some k10c1 }
def k10c2 : Code := { maxStack := 1, maxLocals := 1, code := jdk_78_method_6_code, exceptionTable := #[], attributes := #[] }
def k10m2 : Method := { name := "getMessage", desc := "()Ljava/lang/String;", sig := { parameters := [], returnType := some (.object "java/lang/String") }, accessFlags := 1, code := some k10c2 }
def k10c3 : Code := { maxStack := 2, maxLocals := 1, code := ⟨#[0x2a, 0xb4, 0x00, 0x11, 0xc7, 0x00, 0x0a, 0x2a, 0xb4, 0x00, 0xc6, 0xc6, 0x00, 0x10, 0x2a, 0x03, 0xb6, 0x00, 0xca, 0x57, 0x2a, 0xb2, 0x00, 0x0d, 0xb5, 0x00, 0x11, 0x2a, 0xb0]⟩, exceptionTable := #[], attributes := #[] }
def k10m3 : Method := { name := "fillInStackTrace", desc := "()Ljava/lang/Throwable;", sig := { parameters := [], returnType := some (.object "java/lang/Throwable") }, accessFlags := 33, code := some k10c3 }
def k10m4 : Method := { name := "fillInStackTrace", desc := "(I)Ljava/lang/Throwable;", sig := { parameters := [.int], returnType := some (.object "java/lang/Throwable") }, accessFlags := 258, code := none }
/-- java/lang/Throwable -/
def k10 : Class := { plain "java/lang/Throwable" (some 0) with
  accessFlags := 33
  interfaces := #[2]
  cf := some (fileOf pool10 8 #[.nestMembers #[193, 93, 101, 269]] #[{ accessFlags := 1, nameIndex := 5, descriptorIndex := 6, attributes := #[] }, { accessFlags := 1, nameIndex := 5, descriptorIndex := 223, attributes := #[] }, { accessFlags := 1, nameIndex := 41, descriptorIndex := 38, attributes := #[] }, { accessFlags := 33, nameIndex := 29, descriptorIndex := 30, attributes := #[] }, { accessFlags := 258, nameIndex := 29, descriptorIndex := 204, attributes := #[] }] 33 2 #[318] #[{ accessFlags := 26, nameIndex := 320, descriptorIndex := 321, attributes := #[] }, { accessFlags := 130, nameIndex := 200, descriptorIndex := 201, attributes := #[] }, { accessFlags := 2, nameIndex := 33, descriptorIndex := 34, attributes := #[] }, { accessFlags := 26, nameIndex := 15, descriptorIndex := 16, attributes := #[] }, { accessFlags := 2, nameIndex := 11, descriptorIndex := 12, attributes := #[] }, { accessFlags := 2, nameIndex := 19, descriptorIndex := 16, attributes := #[] }, { accessFlags := 130, nameIndex := 211, descriptorIndex := 212, attributes := #[] }, { accessFlags := 26, nameIndex := 22, descriptorIndex := 23, attributes := #[] }, { accessFlags := 2, nameIndex := 26, descriptorIndex := 23, attributes := #[] }, { accessFlags := 26, nameIndex := 327, descriptorIndex := 34, attributes := #[] }, { accessFlags := 26, nameIndex := 328, descriptorIndex := 34, attributes := #[] }, { accessFlags := 26, nameIndex := 329, descriptorIndex := 34, attributes := #[] }, { accessFlags := 26, nameIndex := 330, descriptorIndex := 34, attributes := #[] }, { accessFlags := 26, nameIndex := 304, descriptorIndex := 305, attributes := #[] }, { accessFlags := 4120, nameIndex := 165, descriptorIndex := 166, attributes := #[] }])
  fields := #[{ name := "serialVersionUID", type := .long, accessFlags := 26, slot := 0, constantValue := 0 }, { name := "backtrace", type := (.object "java/lang/Object"), accessFlags := 130, slot := 0, constantValue := 0 }, { name := "detailMessage", type := (.object "java/lang/String"), accessFlags := 2, slot := 1, constantValue := 0 }, { name := "UNASSIGNED_STACK", type := (.array (.object "java/lang/StackTraceElement")), accessFlags := 26, slot := 1, constantValue := 0 }, { name := "cause", type := (.object "java/lang/Throwable"), accessFlags := 2, slot := 2, constantValue := 0 }, { name := "stackTrace", type := (.array (.object "java/lang/StackTraceElement")), accessFlags := 2, slot := 3, constantValue := 0 }, { name := "depth", type := .int, accessFlags := 130, slot := 4, constantValue := 0 }, { name := "SUPPRESSED_SENTINEL", type := (.object "java/util/List"), accessFlags := 26, slot := 2, constantValue := 0 }, { name := "suppressedExceptions", type := (.object "java/util/List"), accessFlags := 2, slot := 5, constantValue := 0 }, { name := "NULL_CAUSE_MESSAGE", type := (.object "java/lang/String"), accessFlags := 26, slot := 3, constantValue := 0 }, { name := "SELF_SUPPRESSION_MESSAGE", type := (.object "java/lang/String"), accessFlags := 26, slot := 4, constantValue := 0 }, { name := "CAUSE_CAPTION", type := (.object "java/lang/String"), accessFlags := 26, slot := 5, constantValue := 0 }, { name := "SUPPRESSED_CAPTION", type := (.object "java/lang/String"), accessFlags := 26, slot := 6, constantValue := 0 }, { name := "EMPTY_THROWABLE_ARRAY", type := (.array (.object "java/lang/Throwable")), accessFlags := 26, slot := 7, constantValue := 0 }, { name := "$assertionsDisabled", type := .boolean, accessFlags := 4120, slot := 8, constantValue := 0 }]
  methods := #[k10m0, k10m1, k10m2, k10m3, k10m4]
  instanceTypes := #[(.object "java/lang/Object"), (.object "java/lang/String"), (.object "java/lang/Throwable"), (.array (.object "java/lang/StackTraceElement")), .int, (.object "java/util/List")]
  staticTypes := #[.long, (.array (.object "java/lang/StackTraceElement")), (.object "java/util/List"), (.object "java/lang/String"), (.object "java/lang/String"), (.object "java/lang/String"), (.object "java/lang/String"), (.array (.object "java/lang/Throwable")), .boolean]
  resolved := Array.replicate 404 none
  statics := some 1 }

def pool11 : Array CpInfo := pool [(2, .class_ 4), (1, u "java/lang/Throwable"), (0, u "<init>"), (0, u "()V"), (0, .methodref 2 8), (0, .nameAndType 5 9), (0, u "(Ljava/lang/String;)V"), (9, .class_ 20), (0, u "java/lang/Exception"), (0, u "serialVersionUID"), (0, u "J")] 17

def k11m0 : Method := { name := "<init>", desc := "()V", sig := { parameters := [], returnType := none }, accessFlags := 1, code := none }
def k11c1 : Code := { maxStack := 2, maxLocals := 2, code := jdk_59_method_2_code, exceptionTable := #[], attributes := #[] }
def k11m1 : Method := { name := "<init>", desc := "(Ljava/lang/String;)V", sig := { parameters := [(.object "java/lang/String")], returnType := none }, accessFlags := 1, code := some k11c1 }
/-- java/lang/Exception -/
def k11 : Class := { plain "java/lang/Exception" (some 10) with
  accessFlags := 33
  interfaces := #[]
  cf := some (fileOf pool11 19 #[] #[{ accessFlags := 1, nameIndex := 5, descriptorIndex := 6, attributes := #[] }, { accessFlags := 1, nameIndex := 5, descriptorIndex := 9, attributes := #[] }] 33 2 #[] #[{ accessFlags := 24, nameIndex := 21, descriptorIndex := 22, attributes := #[] }])
  fields := #[{ name := "serialVersionUID", type := .long, accessFlags := 24, slot := 0, constantValue := 0 }]
  methods := #[k11m0, k11m1]
  instanceTypes := #[(.object "java/lang/Object"), (.object "java/lang/String"), (.object "java/lang/Throwable"), (.array (.object "java/lang/StackTraceElement")), .int, (.object "java/util/List")]
  staticTypes := #[.long]
  resolved := Array.replicate 40 none
  statics := none }

def pool12 : Array CpInfo := pool [(2, .class_ 4), (1, u "java/lang/Exception"), (0, u "<init>"), (0, u "()V"), (0, .methodref 2 8), (0, .nameAndType 5 9), (0, u "(Ljava/lang/String;)V"), (9, .class_ 20), (0, u "java/lang/RuntimeException"), (0, u "serialVersionUID"), (0, u "J")] 17

def k12m0 : Method := { name := "<init>", desc := "()V", sig := { parameters := [], returnType := none }, accessFlags := 1, code := none }
def k12c1 : Code := { maxStack := 2, maxLocals := 2, code := jdk_58_method_2_code, exceptionTable := #[], attributes := #[] }
def k12m1 : Method := { name := "<init>", desc := "(Ljava/lang/String;)V", sig := { parameters := [(.object "java/lang/String")], returnType := none }, accessFlags := 1, code := some k12c1 }
/-- java/lang/RuntimeException -/
def k12 : Class := { plain "java/lang/RuntimeException" (some 11) with
  accessFlags := 33
  interfaces := #[]
  cf := some (fileOf pool12 19 #[] #[{ accessFlags := 1, nameIndex := 5, descriptorIndex := 6, attributes := #[] }, { accessFlags := 1, nameIndex := 5, descriptorIndex := 9, attributes := #[] }] 33 2 #[] #[{ accessFlags := 24, nameIndex := 21, descriptorIndex := 22, attributes := #[] }])
  fields := #[{ name := "serialVersionUID", type := .long, accessFlags := 24, slot := 0, constantValue := 0 }]
  methods := #[k12m0, k12m1]
  instanceTypes := #[(.object "java/lang/Object"), (.object "java/lang/String"), (.object "java/lang/Throwable"), (.array (.object "java/lang/StackTraceElement")), .int, (.object "java/util/List")]
  staticTypes := #[.long]
  resolved := Array.replicate 40 none
  statics := none }

def pool13 : Array CpInfo := pool [(1, .methodref 2 3), (0, .class_ 4), (0, .nameAndType 5 6), (0, u "java/lang/RuntimeException"), (0, u "<init>"), (0, u "(Ljava/lang/String;)V"), (32, .class_ 40), (0, u "com/example/sieve_for_sparql/sieveforsparql/InputException"), (18, u "serialVersionUID"), (0, u "J")] 10

def k13c0 : Code := { maxStack := 2, maxLocals := 2, code := prog_3_method_1_code, exceptionTable := #[], attributes := #[] }
def k13m0 : Method := { name := "<init>", desc := "(Ljava/lang/String;)V", sig := { parameters := [(.object "java/lang/String")], returnType := none }, accessFlags := 1, code := some k13c0 }
/-- com/example/sieve_for_sparql/sieveforsparql/InputException -/
def k13 : Class := { plain "com/example/sieve_for_sparql/sieveforsparql/InputException" (some 12) with
  accessFlags := 33
  interfaces := #[]
  cf := some (fileOf pool13 39 #[] #[{ accessFlags := 1, nameIndex := 5, descriptorIndex := 6, attributes := #[] }] 33 2 #[] #[{ accessFlags := 26, nameIndex := 59, descriptorIndex := 60, attributes := #[] }])
  fields := #[{ name := "serialVersionUID", type := .long, accessFlags := 26, slot := 0, constantValue := 0 }]
  methods := #[k13m0]
  instanceTypes := #[(.object "java/lang/Object"), (.object "java/lang/String"), (.object "java/lang/Throwable"), (.array (.object "java/lang/StackTraceElement")), .int, (.object "java/util/List")]
  staticTypes := #[.long]
  resolved := Array.replicate 71 none
  statics := none }

def pool14 : Array CpInfo := pool [(1, .class_ 2), (0, u "java/lang/Appendable"), (0, .class_ 4), (0, u "java/lang/Object")] 9

/-- java/lang/Appendable -/
def k14 : Class := { plain "java/lang/Appendable" (some 0) with
  accessFlags := 1537
  interfaces := #[]
  cf := some (fileOf pool14 1 #[] #[] 1537 3 #[] #[])
  fields := #[]
  methods := #[]
  instanceTypes := #[]
  staticTypes := #[]
  resolved := Array.replicate 14 none
  statics := none }

def pool15 : Array CpInfo := pool [(1, .class_ 2), (0, u "java/lang/String"), (0, .methodref 4 5), (0, .class_ 6), (0, .nameAndType 7 8), (0, u "java/lang/Object"), (0, u "<init>"), (0, u "()V"), (1, .class_ 12), (1, u "java/lang/AbstractStringBuilder"), (0, u "EMPTYVALUE"), (0, u "[B"), (0, .fieldref 10 16), (0, .nameAndType 17 14), (0, u "value"), (0, .fieldref 1 19), (0, .nameAndType 20 21), (0, u "COMPACT_STRINGS"), (0, u "Z"), (0, .fieldref 10 23), (0, .nameAndType 24 25), (0, u "coder"), (0, u "B"), (0, .methodref 27 28), (0, .class_ 29), (0, .nameAndType 30 31), (0, u "java/lang/StringUTF16"), (0, u "newBytesFor"), (0, u "(I)[B"), (0, .methodref 1 33), (0, .nameAndType 34 35), (0, u "length"), (0, u "()I"), (4, .methodref 1 41), (0, .nameAndType 24 42), (0, u "()B"), (2, u "append"), (0, u "(Ljava/lang/String;)Ljava/lang/AbstractStringBuilder;"), (1, .class_ 49), (0, u "java/lang/CharSequence"), (19, u "(Ljava/lang/String;)V"), (5, u "maybeLatin1"), (3, .fieldref 10 80), (0, .nameAndType 81 82), (0, u "count"), (0, u "I"), (0, .methodref 10 84), (0, .nameAndType 85 86), (0, u "isLatin1"), (0, u "()Z"), (1, .class_ 90), (1, u "java/lang/StringLatin1"), (9, .methodref 10 101), (0, .nameAndType 102 103), (0, u "ensureCapacityInternal"), (0, u "(I)V"), (21, .methodref 88 126), (0, .nameAndType 127 128), (0, u "inflate"), (0, u "([BI[BII)V"), (66, .methodref 10 196), (0, .nameAndType 127 8), (7, .methodref 10 205), (0, .nameAndType 206 207), (0, u "appendNull"), (0, u "()Ljava/lang/AbstractStringBuilder;"), (0, .methodref 10 209), (0, .nameAndType 210 211), (0, u "putStringAt"), (0, u "(ILjava/lang/String;)V"), (5, u "inflateIfNeededFor"), (2, .nameAndType 221 222), (0, u "getBytes"), (0, u "([BIB)V"), (174, .methodref 10 398), (0, .nameAndType 217 69), (0, .methodref 1 220), (3, u "()[B"), (40, .class_ 445), (0, u "java/lang/Appendable"), (106, u "getValue")] 56

def k15m0 : Method := { name := "<init>", desc := "()V", sig := { parameters := [], returnType := none }, accessFlags := 0, code := none }
def k15c1 : Code := { maxStack := 2, maxLocals := 2, code := jdk_68_method_2_code, exceptionTable := #[], attributes := #[] }
def k15m1 : Method := { name := "<init>", desc := "(I)V", sig := { parameters := [.int], returnType := none }, accessFlags := 0, code := some k15c1 }
def k15c2 : Code := { maxStack := 1, maxLocals := 1, code := jdk_68_method_6_code, exceptionTable := #[], attributes := #[] }
def k15m2 : Method := { name := "length", desc := "()I", sig := { parameters := [], returnType := some .int }, accessFlags := 1, code := some k15c2 }
def k15c3 : Code := { maxStack := 4, maxLocals := 3, code := jdk_68_method_9_code, exceptionTable := #[], attributes := #[] }
def k15m3 : Method := { name := "ensureCapacityInternal", desc := "(I)V", sig := { parameters := [.int], returnType := none }, accessFlags := 2, code := some k15c3 }
def k15c4 : Code := { maxStack := 5, maxLocals := 2, code := jdk_68_method_11_code, exceptionTable := #[], attributes := #[] }
def k15m4 : Method := { name := "inflate", desc := "()V", sig := { parameters := [], returnType := none }, accessFlags := 2, code := some k15c4 }
def k15c5 : Code := { maxStack := 3, maxLocals := 3, code := jdk_68_method_22_code, exceptionTable := #[], attributes := #[] }
def k15m5 : Method := { name := "append", desc := "(Ljava/lang/String;)Ljava/lang/AbstractStringBuilder;", sig := { parameters := [(.object "java/lang/String")], returnType := some (.object "java/lang/AbstractStringBuilder") }, accessFlags := 1, code := some k15c5 }
def k15c6 : Code := { maxStack := 6, maxLocals := 3, code := jdk_68_method_26_code, exceptionTable := #[], attributes := #[] }
def k15m6 : Method := { name := "appendNull", desc := "()Ljava/lang/AbstractStringBuilder;", sig := { parameters := [], returnType := some (.object "java/lang/AbstractStringBuilder") }, accessFlags := 2, code := some k15c6 }
def k15c7 : Code := { maxStack := 1, maxLocals := 1, code := jdk_68_method_64_code, exceptionTable := #[], attributes := #[] }
def k15m7 : Method := { name := "getValue", desc := "()[B", sig := { parameters := [], returnType := some (.array .byte) }, accessFlags := 16, code := some k15c7 }
def k15c8 : Code := { maxStack := 1, maxLocals := 1, code := jdk_68_method_68_code, exceptionTable := #[], attributes := #[] }
def k15m8 : Method := { name := "isLatin1", desc := "()Z", sig := { parameters := [], returnType := some .boolean }, accessFlags := 16, code := some k15c8 }
def k15c9 : Code := { maxStack := 2, maxLocals := 2, code := jdk_68_method_71_code, exceptionTable := #[], attributes := #[] }
def k15m9 : Method := { name := "inflateIfNeededFor", desc := "(Ljava/lang/String;)V", sig := { parameters := [(.object "java/lang/String")], returnType := none }, accessFlags := 2, code := some k15c9 }
def k15c10 : Code := { maxStack := 4, maxLocals := 3, code := jdk_68_method_73_code, exceptionTable := #[], attributes := #[] }
def k15m10 : Method := { name := "putStringAt", desc := "(ILjava/lang/String;)V", sig := { parameters := [.int, (.object "java/lang/String")], returnType := none }, accessFlags := 2, code := some k15c10 }
/-- java/lang/AbstractStringBuilder -/
def k15 : Class := { plain "java/lang/AbstractStringBuilder" (some 0) with
  accessFlags := 1056
  interfaces := #[14, 4]
  cf := some (fileOf pool15 10 #[] #[{ accessFlags := 0, nameIndex := 7, descriptorIndex := 8, attributes := #[] }, { accessFlags := 0, nameIndex := 7, descriptorIndex := 103, attributes := #[] }, { accessFlags := 1, nameIndex := 34, descriptorIndex := 35, attributes := #[] }, { accessFlags := 2, nameIndex := 102, descriptorIndex := 103, attributes := #[] }, { accessFlags := 2, nameIndex := 127, descriptorIndex := 8, attributes := #[] }, { accessFlags := 1, nameIndex := 45, descriptorIndex := 46, attributes := #[] }, { accessFlags := 2, nameIndex := 206, descriptorIndex := 207, attributes := #[] }, { accessFlags := 16, nameIndex := 552, descriptorIndex := 403, attributes := #[] }, { accessFlags := 16, nameIndex := 85, descriptorIndex := 86, attributes := #[] }, { accessFlags := 2, nameIndex := 217, descriptorIndex := 69, attributes := #[] }, { accessFlags := 2, nameIndex := 210, descriptorIndex := 211, attributes := #[] }] 1056 4 #[444, 48] #[{ accessFlags := 0, nameIndex := 17, descriptorIndex := 14, attributes := #[] }, { accessFlags := 0, nameIndex := 24, descriptorIndex := 25, attributes := #[] }, { accessFlags := 0, nameIndex := 75, descriptorIndex := 21, attributes := #[] }, { accessFlags := 0, nameIndex := 81, descriptorIndex := 82, attributes := #[] }, { accessFlags := 26, nameIndex := 13, descriptorIndex := 14, attributes := #[] }])
  fields := #[{ name := "value", type := (.array .byte), accessFlags := 0, slot := 0, constantValue := 0 }, { name := "coder", type := .byte, accessFlags := 0, slot := 1, constantValue := 0 }, { name := "maybeLatin1", type := .boolean, accessFlags := 0, slot := 2, constantValue := 0 }, { name := "count", type := .int, accessFlags := 0, slot := 3, constantValue := 0 }, { name := "EMPTYVALUE", type := (.array .byte), accessFlags := 26, slot := 0, constantValue := 0 }]
  methods := #[k15m0, k15m1, k15m2, k15m3, k15m4, k15m5, k15m6, k15m7, k15m8, k15m9, k15m10]
  instanceTypes := #[(.array .byte), .byte, .boolean, .int]
  staticTypes := #[(.array .byte)]
  resolved := Array.replicate 609 none
  statics := none }

def pool16 : Array CpInfo := pool [(1, .methodref 2 3), (0, .class_ 4), (0, .nameAndType 5 6), (0, u "java/lang/AbstractStringBuilder"), (0, u "<init>"), (0, u "(I)V"), (11, .class_ 20), (1, u "java/lang/String"), (3, .class_ 26), (1, u "java/lang/StringBuilder"), (0, u "append"), (0, u "(Ljava/lang/String;)Ljava/lang/StringBuilder;"), (0, .methodref 2 30), (0, .nameAndType 27 31), (0, u "(Ljava/lang/String;)Ljava/lang/AbstractStringBuilder;"), (105, .methodref 18 138), (0, .nameAndType 5 139), (0, u "(Ljava/lang/StringBuilder;)V"), (5, u "()V"), (10, u "()I"), (186, .methodref 2 344), (0, .nameAndType 345 156), (0, u "length"), (3, .class_ 350), (0, u "java/lang/Appendable"), (0, .class_ 352), (0, u "java/io/Serializable"), (0, .class_ 354), (0, u "java/lang/Comparable"), (0, .class_ 356), (0, u "java/lang/CharSequence"), (0, u "serialVersionUID"), (0, u "J"), (40, u "toString"), (0, u "()Ljava/lang/String;")] 21

def k16c0 : Code := { maxStack := 2, maxLocals := 1, code := jdk_67_method_1_code, exceptionTable := #[], attributes := #[] }
def k16m0 : Method := { name := "<init>", desc := "()V", sig := { parameters := [], returnType := none }, accessFlags := 1, code := some k16c0 }
def k16c1 : Code := { maxStack := 2, maxLocals := 2, code := jdk_67_method_7_code, exceptionTable := #[], attributes := #[] }
def k16m1 : Method := { name := "append", desc := "(Ljava/lang/String;)Ljava/lang/StringBuilder;", sig := { parameters := [(.object "java/lang/String")], returnType := some (.object "java/lang/StringBuilder") }, accessFlags := 1, code := some k16c1 }
def k16c2 : Code := { maxStack := 3, maxLocals := 1, code := jdk_67_method_42_code, exceptionTable := #[], attributes := #[] }
def k16m2 : Method := { name := "toString", desc := "()Ljava/lang/String;", sig := { parameters := [], returnType := some (.object "java/lang/String") }, accessFlags := 1, code := some k16c2 }
def k16c3 : Code := { maxStack := 1, maxLocals := 1, code := jdk_67_method_93_code, exceptionTable := #[], attributes := #[] }
def k16m3 : Method := { name := "length", desc := "()I", sig := { parameters := [], returnType := some .int }, accessFlags := 4161, code := some k16c3 }
/-- java/lang/StringBuilder -/
def k16 : Class := { plain "java/lang/StringBuilder" (some 15) with
  accessFlags := 49
  interfaces := #[14, 2, 3, 4]
  cf := some (fileOf pool16 24 #[] #[{ accessFlags := 1, nameIndex := 5, descriptorIndex := 145, attributes := #[] }, { accessFlags := 1, nameIndex := 27, descriptorIndex := 28, attributes := #[] }, { accessFlags := 1, nameIndex := 399, descriptorIndex := 400, attributes := #[] }, { accessFlags := 4161, nameIndex := 345, descriptorIndex := 156, attributes := #[] }] 49 2 #[349, 351, 353, 355] #[{ accessFlags := 24, nameIndex := 357, descriptorIndex := 358, attributes := #[] }])
  fields := #[{ name := "serialVersionUID", type := .long, accessFlags := 24, slot := 0, constantValue := 0 }]
  methods := #[k16m0, k16m1, k16m2, k16m3]
  instanceTypes := #[(.array .byte), .byte, .boolean, .int]
  staticTypes := #[.long]
  resolved := Array.replicate 422 none
  statics := none }

def pool17 : Array CpInfo := pool [(2, .class_ 4), (1, u "java/lang/Object"), (0, u "<init>"), (0, u "()V"), (1, .class_ 10), (1, u "java/lang/System"), (0, u "allowSecurityManager"), (0, u "I"), (16, u "cons"), (0, u "Ljava/io/Console;"), (77, .class_ 110), (1, u "java/lang/System$CallersHolder"), (43, u "initialErrStream"), (0, u "Ljava/io/PrintStream;"), (19, u "security"), (0, u "Ljava/lang/SecurityManager;"), (31, .class_ 209), (0, u "java/lang/System$1"), (7, u "props"), (0, u "Ljava/util/Properties;"), (2, u "lineSeparator"), (0, u "Ljava/lang/String;"), (96, .class_ 321), (1, u "java/lang/System$LoggerFinder"), (5, .class_ 328), (0, u "java/lang/System$Logger"), (67, u "err"), (2, u "out"), (91, u "notSupportedJnuEncoding"), (15, u "in"), (17, u "initialIn"), (0, u "Ljava/io/InputStream;"), (35, u "bootLayer"), (0, u "Ljava/lang/ModuleLayer;"), (99, .class_ 664), (0, u "java/lang/System$2"), (9, u "NEVER"), (2, u "MAYBE"), (49, u "arraycopy"), (0, u "(Ljava/lang/Object;ILjava/lang/Object;II)V"), (72, .class_ 802), (0, u "java/lang/System$Logger$Level")] 31

def k17m0 : Method := { name := "<init>", desc := "()V", sig := { parameters := [], returnType := none }, accessFlags := 2, code := none }
def k17m1 : Method := { name := "arraycopy", desc := "(Ljava/lang/Object;ILjava/lang/Object;II)V", sig := { parameters := [(.object "java/lang/Object"), .int, (.object "java/lang/Object"), .int, .int], returnType := none }, accessFlags := 265, code := none }
/-- java/lang/System -/
def k17 : Class := { plain "java/lang/System" (some 0) with
  accessFlags := 49
  interfaces := #[]
  cf := some (fileOf pool17 8 #[.nestMembers #[319, 327, 801, 108, 663, 208]] #[{ accessFlags := 2, nameIndex := 5, descriptorIndex := 6, attributes := #[] }, { accessFlags := 265, nameIndex := 727, descriptorIndex := 728, attributes := #[] }] 49 2 #[] #[{ accessFlags := 25, nameIndex := 507, descriptorIndex := 526, attributes := #[] }, { accessFlags := 25, nameIndex := 399, descriptorIndex := 155, attributes := #[] }, { accessFlags := 25, nameIndex := 396, descriptorIndex := 155, attributes := #[] }, { accessFlags := 10, nameIndex := 525, descriptorIndex := 526, attributes := #[] }, { accessFlags := 26, nameIndex := 674, descriptorIndex := 12, attributes := #[] }, { accessFlags := 26, nameIndex := 677, descriptorIndex := 12, attributes := #[] }, { accessFlags := 10, nameIndex := 11, descriptorIndex := 12, attributes := #[] }, { accessFlags := 74, nameIndex := 175, descriptorIndex := 176, attributes := #[] }, { accessFlags := 10, nameIndex := 491, descriptorIndex := 222, attributes := #[] }, { accessFlags := 74, nameIndex := 29, descriptorIndex := 30, attributes := #[] }, { accessFlags := 74, nameIndex := 154, descriptorIndex := 155, attributes := #[] }, { accessFlags := 10, nameIndex := 217, descriptorIndex := 218, attributes := #[] }, { accessFlags := 10, nameIndex := 221, descriptorIndex := 222, attributes := #[] }, { accessFlags := 8, nameIndex := 562, descriptorIndex := 563, attributes := #[] }])
  fields := #[{ name := "in", type := (.object "java/io/InputStream"), accessFlags := 25, slot := 0, constantValue := 0 }, { name := "out", type := (.object "java/io/PrintStream"), accessFlags := 25, slot := 1, constantValue := 0 }, { name := "err", type := (.object "java/io/PrintStream"), accessFlags := 25, slot := 2, constantValue := 0 }, { name := "initialIn", type := (.object "java/io/InputStream"), accessFlags := 10, slot := 3, constantValue := 0 }, { name := "NEVER", type := .int, accessFlags := 26, slot := 4, constantValue := 0 }, { name := "MAYBE", type := .int, accessFlags := 26, slot := 5, constantValue := 0 }, { name := "allowSecurityManager", type := .int, accessFlags := 10, slot := 6, constantValue := 0 }, { name := "security", type := (.object "java/lang/SecurityManager"), accessFlags := 74, slot := 7, constantValue := 0 }, { name := "notSupportedJnuEncoding", type := (.object "java/lang/String"), accessFlags := 10, slot := 8, constantValue := 0 }, { name := "cons", type := (.object "java/io/Console"), accessFlags := 74, slot := 9, constantValue := 0 }, { name := "initialErrStream", type := (.object "java/io/PrintStream"), accessFlags := 74, slot := 10, constantValue := 0 }, { name := "props", type := (.object "java/util/Properties"), accessFlags := 10, slot := 11, constantValue := 0 }, { name := "lineSeparator", type := (.object "java/lang/String"), accessFlags := 10, slot := 12, constantValue := 0 }, { name := "bootLayer", type := (.object "java/lang/ModuleLayer"), accessFlags := 8, slot := 13, constantValue := 0 }]
  methods := #[k17m0, k17m1]
  instanceTypes := #[]
  staticTypes := #[(.object "java/io/InputStream"), (.object "java/io/PrintStream"), (.object "java/io/PrintStream"), (.object "java/io/InputStream"), .int, .int, .int, (.object "java/lang/SecurityManager"), (.object "java/lang/String"), (.object "java/io/Console"), (.object "java/io/PrintStream"), (.object "java/util/Properties"), (.object "java/lang/String"), (.object "java/lang/ModuleLayer")]
  resolved := Array.replicate 834 none
  statics := none }

def pool18 : Array CpInfo := pool [(2, .class_ 4), (1, u "java/lang/Object"), (0, u "<init>"), (0, u "()V"), (7, .class_ 16), (1, u "java/util/Arrays"), (57, .class_ 76), (1, u "java/util/Arrays$NaturalOrder"), (32, u "()Ljava/lang/Object;"), (3, .class_ 115), (1, u "java/util/Arrays$LegacyMergeSort"), (1, u "Z"), (10, .nameAndType 129 109), (0, u "clone"), (9, u "copyOfRange"), (10, .methodref 151 152), (0, .class_ 153), (0, .nameAndType 154 155), (0, u "java/lang/System"), (0, u "arraycopy"), (0, u "(Ljava/lang/Object;ILjava/lang/Object;II)V"), (148, .methodref 305 306), (0, .class_ 307), (0, .nameAndType 308 309), (0, u "java/lang/Math"), (0, u "min"), (0, u "(II)I"), (0, .methodref 311 128), (0, .class_ 312), (0, u "[B"), (26, .methodref 14 340), (0, .nameAndType 341 342), (0, u "copyOfRangeByte"), (0, u "([BII)[B"), (0, .methodref 14 344), (0, .nameAndType 345 346), (0, u "checkLength"), (0, u "(II)V"), (28, .class_ 376), (0, u "java/util/Arrays$ArrayList"), (68, u "$assertionsDisabled"), (269, u "MIN_ARRAY_SORT_GRAN"), (0, u "I"), (2, u "INSERTIONSORT_THRESHOLD"), (255, .class_ 976), (0, u "java/util/Arrays$ArrayItr")] 52

def k18m0 : Method := { name := "<init>", desc := "()V", sig := { parameters := [], returnType := none }, accessFlags := 2, code := none }
def k18c1 : Code := { maxStack := 4, maxLocals := 2, code := jdk_65_method_131_code, exceptionTable := #[], attributes := #[] }
def k18m1 : Method := { name := "checkLength", desc := "(II)V", sig := { parameters := [.int, .int], returnType := none }, accessFlags := 10, code := some k18c1 }
def k18c2 : Code := { maxStack := 3, maxLocals := 3, code := jdk_65_method_132_code, exceptionTable := #[], attributes := #[] }
def k18m2 : Method := { name := "copyOfRange", desc := "([BII)[B", sig := { parameters := [(.array .byte), .int, .int], returnType := some (.array .byte) }, accessFlags := 9, code := some k18c2 }
def k18c3 : Code := { maxStack := 6, maxLocals := 5, code := jdk_65_method_133_code, exceptionTable := #[], attributes := #[] }
def k18m3 : Method := { name := "copyOfRangeByte", desc := "([BII)[B", sig := { parameters := [(.array .byte), .int, .int], returnType := some (.array .byte) }, accessFlags := 10, code := some k18c3 }
/-- java/util/Arrays -/
def k18 : Class := { plain "java/util/Arrays" (some 0) with
  accessFlags := 49
  interfaces := #[]
  cf := some (fileOf pool18 14 #[.nestMembers #[975, 375, 113, 74]] #[{ accessFlags := 2, nameIndex := 5, descriptorIndex := 6, attributes := #[] }, { accessFlags := 10, nameIndex := 345, descriptorIndex := 346, attributes := #[] }, { accessFlags := 9, nameIndex := 139, descriptorIndex := 342, attributes := #[] }, { accessFlags := 10, nameIndex := 341, descriptorIndex := 342, attributes := #[] }] 49 2 #[] #[{ accessFlags := 26, nameIndex := 715, descriptorIndex := 716, attributes := #[] }, { accessFlags := 26, nameIndex := 719, descriptorIndex := 716, attributes := #[] }, { accessFlags := 4120, nameIndex := 445, descriptorIndex := 117, attributes := #[] }])
  fields := #[{ name := "MIN_ARRAY_SORT_GRAN", type := .int, accessFlags := 26, slot := 0, constantValue := 0 }, { name := "INSERTIONSORT_THRESHOLD", type := .int, accessFlags := 26, slot := 1, constantValue := 0 }, { name := "$assertionsDisabled", type := .boolean, accessFlags := 4120, slot := 2, constantValue := 0 }]
  methods := #[k18m0, k18m1, k18m2, k18m3]
  instanceTypes := #[]
  staticTypes := #[.int, .int, .boolean]
  resolved := Array.replicate 1029 none
  statics := none }

def pool19 : Array CpInfo := pool [(1, .class_ 2), (0, u "java/lang/Math"), (1, .class_ 6), (1, u "java/lang/Object"), (0, u "<init>"), (0, u "()V"), (89, .class_ 100), (1, u "java/lang/Math$RandomNumberGeneratorHolder"), (71, u "negativeZeroFloatBits"), (0, u "J"), (2, u "negativeZeroDoubleBits"), (24, u "min"), (43, u "$assertionsDisabled"), (0, u "Z"), (88, u "(II)I"), (2, u "twoToTheDoubleScaleDown"), (0, u "D"), (4, u "twoToTheDoubleScaleUp"), (9, u "E"), (3, u "PI"), (2, u "TAU"), (2, u "DEGREES_TO_RADIANS"), (0, u "RADIANS_TO_DEGREES")] 94

def k19m0 : Method := { name := "<init>", desc := "()V", sig := { parameters := [], returnType := none }, accessFlags := 2, code := none }
def k19c1 : Code := { maxStack := 2, maxLocals := 2, code := jdk_29_method_69_code, exceptionTable := #[], attributes := #[] }
def k19m1 : Method := { name := "min", desc := "(II)I", sig := { parameters := [.int, .int], returnType := some .int }, accessFlags := 9, code := some k19c1 }
/-- java/lang/Math -/
def k19 : Class := { plain "java/lang/Math" (some 0) with
  accessFlags := 49
  interfaces := #[]
  cf := some (fileOf pool19 1 #[.nestMembers #[98]] #[{ accessFlags := 2, nameIndex := 7, descriptorIndex := 8, attributes := #[] }, { accessFlags := 9, nameIndex := 201, descriptorIndex := 335, attributes := #[] }] 49 4 #[] #[{ accessFlags := 25, nameIndex := 354, descriptorIndex := 339, attributes := #[] }, { accessFlags := 25, nameIndex := 358, descriptorIndex := 339, attributes := #[] }, { accessFlags := 25, nameIndex := 361, descriptorIndex := 339, attributes := #[] }, { accessFlags := 26, nameIndex := 364, descriptorIndex := 339, attributes := #[] }, { accessFlags := 26, nameIndex := 365, descriptorIndex := 339, attributes := #[] }, { accessFlags := 26, nameIndex := 172, descriptorIndex := 173, attributes := #[] }, { accessFlags := 26, nameIndex := 176, descriptorIndex := 173, attributes := #[] }, { accessFlags := 8, nameIndex := 344, descriptorIndex := 339, attributes := #[] }, { accessFlags := 8, nameIndex := 338, descriptorIndex := 339, attributes := #[] }, { accessFlags := 4120, nameIndex := 245, descriptorIndex := 246, attributes := #[] }])
  fields := #[{ name := "E", type := .double, accessFlags := 25, slot := 0, constantValue := 0 }, { name := "PI", type := .double, accessFlags := 25, slot := 1, constantValue := 0 }, { name := "TAU", type := .double, accessFlags := 25, slot := 2, constantValue := 0 }, { name := "DEGREES_TO_RADIANS", type := .double, accessFlags := 26, slot := 3, constantValue := 0 }, { name := "RADIANS_TO_DEGREES", type := .double, accessFlags := 26, slot := 4, constantValue := 0 }, { name := "negativeZeroFloatBits", type := .long, accessFlags := 26, slot := 5, constantValue := 0 }, { name := "negativeZeroDoubleBits", type := .long, accessFlags := 26, slot := 6, constantValue := 0 }, { name := "twoToTheDoubleScaleUp", type := .double, accessFlags := 8, slot := 7, constantValue := 0 }, { name := "twoToTheDoubleScaleDown", type := .double, accessFlags := 8, slot := 8, constantValue := 0 }, { name := "$assertionsDisabled", type := .boolean, accessFlags := 4120, slot := 9, constantValue := 0 }]
  methods := #[k19m0, k19m1]
  instanceTypes := #[]
  staticTypes := #[.double, .double, .double, .double, .double, .long, .long, .double, .double, .boolean]
  resolved := Array.replicate 460 none
  statics := none }

def pool20 : Array CpInfo := pool [(1, .class_ 2), (0, u "java/lang/String"), (1, .class_ 6), (1, u "java/lang/Object"), (0, u "<init>"), (0, u "()V"), (0, .methodref 1 10), (0, .nameAndType 11 12), (0, u "checkIndex"), (0, u "(II)V"), (1, .class_ 16), (1, u "java/lang/StringLatin1"), (0, u "inflate"), (2, .class_ 22), (1, u "java/lang/StringUTF16"), (3, .nameAndType 17 27), (0, u "([BI[BII)V"), (25, u "([BI)C"), (67, u "$assertionsDisabled"), (0, u "Z"), (98, .class_ 223), (1, u "java/lang/StringLatin1$LinesSpliterator"), (16, .methodref 20 26), (11, u "charAt"), (137, .class_ 391), (0, u "java/lang/StringLatin1$CharsSpliterator")] 3

def k20m0 : Method := { name := "<init>", desc := "()V", sig := { parameters := [], returnType := none }, accessFlags := 0, code := none }
def k20c1 : Code := { maxStack := 2, maxLocals := 2, code := jdk_43_method_2_code, exceptionTable := #[], attributes := #[] }
def k20m1 : Method := { name := "charAt", desc := "([BI)C", sig := { parameters := [(.array .byte), .int], returnType := some .char }, accessFlags := 9, code := some k20c1 }
def k20c2 : Code := { maxStack := 5, maxLocals := 5, code := jdk_43_method_50_code, exceptionTable := #[], attributes := #[] }
def k20m2 : Method := { name := "inflate", desc := "([BI[BII)V", sig := { parameters := [(.array .byte), .int, (.array .byte), .int, .int], returnType := none }, accessFlags := 9, code := some k20c2 }
/-- java/lang/StringLatin1 -/
def k20 : Class := { plain "java/lang/StringLatin1" (some 0) with
  accessFlags := 48
  interfaces := #[]
  cf := some (fileOf pool20 14 #[.nestMembers #[390, 221]] #[{ accessFlags := 0, nameIndex := 7, descriptorIndex := 8, attributes := #[] }, { accessFlags := 9, nameIndex := 252, descriptorIndex := 53, attributes := #[] }, { accessFlags := 9, nameIndex := 17, descriptorIndex := 27, attributes := #[] }] 48 4 #[] #[{ accessFlags := 4120, nameIndex := 121, descriptorIndex := 122, attributes := #[] }])
  fields := #[{ name := "$assertionsDisabled", type := .boolean, accessFlags := 4120, slot := 0, constantValue := 0 }]
  methods := #[k20m0, k20m1, k20m2]
  instanceTypes := #[]
  staticTypes := #[.boolean]
  resolved := Array.replicate 395 none
  statics := none }

def pool21 : Array CpInfo := pool [(2, .class_ 4), (1, u "java/lang/Object"), (0, u "<init>"), (0, u "()V"), (17, .class_ 26), (1, u "jdk/internal/util/Preconditions"), (6, u "checkIndex"), (15, u "checkFromIndexSize"), (5, .class_ 56), (0, u "jdk/internal/util/Preconditions$4"), (57, .class_ 115), (0, u "jdk/internal/util/Preconditions$1"), (7, u "SIOOBE_FORMATTER"), (0, u "Ljava/util/function/BiFunction;"), (0, .class_ 126), (0, u "jdk/internal/util/Preconditions$2"), (3, u "AIOOBE_FORMATTER"), (0, .class_ 132), (0, u "jdk/internal/util/Preconditions$3"), (3, u "IOOBE_FORMATTER"), (41, u "(IILjava/util/function/BiFunction;)I"), (4, u "(IIILjava/util/function/BiFunction;)I")] 10

def k21m0 : Method := { name := "<init>", desc := "()V", sig := { parameters := [], returnType := none }, accessFlags := 1, code := none }
def k21c1 : Code := { maxStack := 3, maxLocals := 3, code := jdk_41_method_11_code, exceptionTable := #[], attributes := #[] }
def k21m1 : Method := { name := "checkIndex", desc := "(IILjava/util/function/BiFunction;)I", sig := { parameters := [.int, .int, (.object "java/util/function/BiFunction")], returnType := some .int }, accessFlags := 9, code := some k21c1 }
def k21c2 : Code := { maxStack := 4, maxLocals := 4, code := jdk_41_method_13_code, exceptionTable := #[], attributes := #[] }
def k21m2 : Method := { name := "checkFromIndexSize", desc := "(IIILjava/util/function/BiFunction;)I", sig := { parameters := [.int, .int, .int, (.object "java/util/function/BiFunction")], returnType := some .int }, accessFlags := 9, code := some k21c2 }
/-- jdk/internal/util/Preconditions -/
def k21 : Class := { plain "jdk/internal/util/Preconditions" (some 0) with
  accessFlags := 33
  interfaces := #[]
  cf := some (fileOf pool21 24 #[.nestMembers #[55, 131, 125, 114]] #[{ accessFlags := 1, nameIndex := 5, descriptorIndex := 6, attributes := #[] }, { accessFlags := 9, nameIndex := 33, descriptorIndex := 178, attributes := #[] }, { accessFlags := 9, nameIndex := 49, descriptorIndex := 183, attributes := #[] }] 33 2 #[] #[{ accessFlags := 25, nameIndex := 123, descriptorIndex := 124, attributes := #[] }, { accessFlags := 25, nameIndex := 130, descriptorIndex := 124, attributes := #[] }, { accessFlags := 25, nameIndex := 136, descriptorIndex := 124, attributes := #[] }])
  fields := #[{ name := "SIOOBE_FORMATTER", type := (.object "java/util/function/BiFunction"), accessFlags := 25, slot := 0, constantValue := 0 }, { name := "AIOOBE_FORMATTER", type := (.object "java/util/function/BiFunction"), accessFlags := 25, slot := 1, constantValue := 0 }, { name := "IOOBE_FORMATTER", type := (.object "java/util/function/BiFunction"), accessFlags := 25, slot := 2, constantValue := 0 }]
  methods := #[k21m0, k21m1, k21m2]
  instanceTypes := #[]
  staticTypes := #[(.object "java/util/function/BiFunction"), (.object "java/util/function/BiFunction"), (.object "java/util/function/BiFunction")]
  resolved := Array.replicate 194 none
  statics := some 2 }

def pool22 : Array CpInfo := pool [(1, .class_ 2), (0, u "java/lang/Cloneable"), (0, .class_ 4), (0, u "java/lang/Object")] 2

/-- java/lang/Cloneable -/
def k22 : Class := { plain "java/lang/Cloneable" (some 0) with
  accessFlags := 1537
  interfaces := #[]
  cf := some (fileOf pool22 1 #[] #[] 1537 3 #[] #[])
  fields := #[]
  methods := #[]
  instanceTypes := #[]
  staticTypes := #[]
  resolved := Array.replicate 7 none
  statics := none }

def pool23 : Array CpInfo := pool [(3, .class_ 4), (0, u "java/lang/String"), (1, .class_ 8), (1, u "java/lang/Object"), (0, u "<init>"), (0, u "()V"), (0, .methodref 12 13), (0, .class_ 14), (0, .nameAndType 15 16), (0, u "java/lang/StringUTF16"), (0, u "newBytesLength"), (0, u "(I)I"), (3, .integer 1073741823), (23, .fieldref 12 45), (0, .nameAndType 46 47), (0, u "$assertionsDisabled"), (0, u "Z"), (0, .methodref 12 49), (0, .nameAndType 50 51), (0, u "length"), (0, u "([B)I"), (7, .fieldref 12 60), (0, .nameAndType 61 62), (0, u "HI_BYTE_SHIFT"), (0, u "I"), (0, .fieldref 12 64), (0, .nameAndType 65 62), (0, u "LO_BYTE_SHIFT"), (1, .methodref 12 68), (0, .nameAndType 69 70), (0, u "checkIndex"), (0, u "(I[B)V"), (0, .methodref 12 72), (0, .nameAndType 73 74), (0, u "getChar"), (0, u "([BI)C"), (24, u "(II[B)V"), (7, .methodref 12 108), (0, .nameAndType 109 110), (0, u "newBytesFor"), (0, u "(I)[B"), (0, .methodref 12 112), (0, .nameAndType 113 114), (0, u "putChar"), (0, u "([BII)V"), (0, .methodref 12 116), (0, .nameAndType 117 118), (0, u "compress"), (0, u "([CI[BII)I"), (0, .methodref 12 120), (0, .nameAndType 121 122), (0, u "toBytes"), (0, u "([CII)[B"), (17, u "inflate"), (0, u "([BI[BII)V"), (31, .methodref 12 174), (0, .nameAndType 175 99), (0, u "checkBoundsOffCount"), (85, u "coderFromArrayLen"), (0, u "([BI)B"), (18, u "(III)I"), (87, .class_ 371), (1, u "java/lang/StringUTF16$LinesSpliterator"), (20, u "charAt"), (21, .methodref 3 415), (0, .nameAndType 69 416), (0, u "(II)V"), (2, .methodref 3 420), (0, .nameAndType 175 281), (9, u "MAX_LENGTH"), (196, .class_ 628), (0, u "java/lang/StringUTF16$CodePointsSpliterator"), (0, .class_ 630), (0, u "java/lang/StringUTF16$CharsSpliterator")] 4

def k23m0 : Method := { name := "<init>", desc := "()V", sig := { parameters := [], returnType := none }, accessFlags := 0, code := none }
def k23c1 : Code := { maxStack := 1, maxLocals := 1, code := jdk_52_method_2_code, exceptionTable := #[], attributes := #[] }
def k23m1 : Method := { name := "newBytesFor", desc := "(I)[B", sig := { parameters := [.int], returnType := some (.array .byte) }, accessFlags := 9, code := some k23c1 }
def k23c2 : Code := { maxStack := 4, maxLocals := 1, code := jdk_52_method_3_code, exceptionTable := #[], attributes := #[] }
def k23m2 : Method := { name := "newBytesLength", desc := "(I)I", sig := { parameters := [.int], returnType := some .int }, accessFlags := 9, code := some k23c2 }
def k23c3 : Code := { maxStack := 4, maxLocals := 3, code := jdk_52_method_4_code, exceptionTable := #[], attributes := #[] }
def k23m3 : Method := { name := "putChar", desc := "([BII)V", sig := { parameters := [(.array .byte), .int, .int], returnType := none }, accessFlags := 8, code := some k23c3 }
def k23c4 : Code := { maxStack := 3, maxLocals := 2, code := jdk_52_method_5_code, exceptionTable := #[], attributes := #[] }
def k23m4 : Method := { name := "getChar", desc := "([BI)C", sig := { parameters := [(.array .byte), .int], returnType := some .char }, accessFlags := 8, code := some k23c4 }
def k23c5 : Code := { maxStack := 2, maxLocals := 1, code := jdk_52_method_6_code, exceptionTable := #[], attributes := #[] }
def k23m5 : Method := { name := "length", desc := "([B)I", sig := { parameters := [(.array .byte)], returnType := some .int }, accessFlags := 9, code := some k23c5 }
def k23c6 : Code := { maxStack := 4, maxLocals := 5, code := jdk_52_method_14_code, exceptionTable := #[], attributes := #[] }
def k23m6 : Method := { name := "toBytes", desc := "([CII)[B", sig := { parameters := [(.array .char), .int, .int], returnType := some (.array .byte) }, accessFlags := 9, code := some k23c6 }
def k23c7 : Code := { maxStack := 2, maxLocals := 2, code := jdk_52_method_15_code, exceptionTable := #[], attributes := #[] }
def k23m7 : Method := { name := "coderFromArrayLen", desc := "([BI)B", sig := { parameters := [(.array .byte), .int], returnType := some .byte }, accessFlags := 8, code := some k23c7 }
def k23c8 : Code := { maxStack := 5, maxLocals := 6, code := jdk_52_method_16_code, exceptionTable := #[], attributes := #[] }
def k23m8 : Method := { name := "compress", desc := "([CII)[B", sig := { parameters := [(.array .char), .int, .int], returnType := some (.array .byte) }, accessFlags := 9, code := some k23c8 }
def k23c9 : Code := { maxStack := 3, maxLocals := 7, code := jdk_52_method_21_code, exceptionTable := #[], attributes := #[] }
def k23m9 : Method := { name := "compress", desc := "([CI[BII)I", sig := { parameters := [(.array .char), .int, (.array .byte), .int, .int], returnType := some .int }, accessFlags := 9, code := some k23c9 }
def k23c10 : Code := { maxStack := 2, maxLocals := 2, code := jdk_52_method_83_code, exceptionTable := #[], attributes := #[] }
def k23m10 : Method := { name := "charAt", desc := "([BI)C", sig := { parameters := [(.array .byte), .int], returnType := some .char }, accessFlags := 9, code := some k23c10 }
def k23c11 : Code := { maxStack := 4, maxLocals := 6, code := jdk_52_method_86_code, exceptionTable := #[], attributes := #[] }
def k23m11 : Method := { name := "inflate", desc := "([BI[BII)V", sig := { parameters := [(.array .byte), .int, (.array .byte), .int, .int], returnType := none }, accessFlags := 9, code := some k23c11 }
def k23c12 : Code := { maxStack := 2, maxLocals := 2, code := jdk_52_method_91_code, exceptionTable := #[], attributes := #[] }
def k23m12 : Method := { name := "checkIndex", desc := "(I[B)V", sig := { parameters := [.int, (.array .byte)], returnType := none }, accessFlags := 9, code := some k23c12 }
def k23c13 : Code := { maxStack := 3, maxLocals := 3, code := jdk_52_method_94_code, exceptionTable := #[], attributes := #[] }
def k23m13 : Method := { name := "checkBoundsOffCount", desc := "(II[B)V", sig := { parameters := [.int, .int, (.array .byte)], returnType := none }, accessFlags := 9, code := some k23c13 }
/-- java/lang/StringUTF16 -/
def k23 : Class := { plain "java/lang/StringUTF16" (some 0) with
  accessFlags := 48
  interfaces := #[]
  cf := some (fileOf pool23 12 #[.nestMembers #[627, 629, 369]] #[{ accessFlags := 0, nameIndex := 9, descriptorIndex := 10, attributes := #[] }, { accessFlags := 9, nameIndex := 109, descriptorIndex := 110, attributes := #[] }, { accessFlags := 9, nameIndex := 15, descriptorIndex := 16, attributes := #[] }, { accessFlags := 8, nameIndex := 113, descriptorIndex := 114, attributes := #[] }, { accessFlags := 8, nameIndex := 73, descriptorIndex := 74, attributes := #[] }, { accessFlags := 9, nameIndex := 50, descriptorIndex := 51, attributes := #[] }, { accessFlags := 9, nameIndex := 121, descriptorIndex := 122, attributes := #[] }, { accessFlags := 8, nameIndex := 261, descriptorIndex := 262, attributes := #[] }, { accessFlags := 9, nameIndex := 117, descriptorIndex := 122, attributes := #[] }, { accessFlags := 9, nameIndex := 117, descriptorIndex := 118, attributes := #[] }, { accessFlags := 9, nameIndex := 392, descriptorIndex := 74, attributes := #[] }, { accessFlags := 9, nameIndex := 140, descriptorIndex := 141, attributes := #[] }, { accessFlags := 9, nameIndex := 69, descriptorIndex := 70, attributes := #[] }, { accessFlags := 9, nameIndex := 175, descriptorIndex := 99, attributes := #[] }] 48 6 #[] #[{ accessFlags := 26, nameIndex := 61, descriptorIndex := 62, attributes := #[] }, { accessFlags := 26, nameIndex := 65, descriptorIndex := 62, attributes := #[] }, { accessFlags := 24, nameIndex := 430, descriptorIndex := 62, attributes := #[] }, { accessFlags := 4120, nameIndex := 46, descriptorIndex := 47, attributes := #[] }])
  fields := #[{ name := "HI_BYTE_SHIFT", type := .int, accessFlags := 26, slot := 0, constantValue := 0 }, { name := "LO_BYTE_SHIFT", type := .int, accessFlags := 26, slot := 1, constantValue := 0 }, { name := "MAX_LENGTH", type := .int, accessFlags := 24, slot := 2, constantValue := 0 }, { name := "$assertionsDisabled", type := .boolean, accessFlags := 4120, slot := 3, constantValue := 0 }]
  methods := #[k23m0, k23m1, k23m2, k23m3, k23m4, k23m5, k23m6, k23m7, k23m8, k23m9, k23m10, k23m11, k23m12, k23m13]
  instanceTypes := #[]
  staticTypes := #[.int, .int, .int, .boolean]
  resolved := Array.replicate 635 none
  statics := some 3 }

def pool24 : Array CpInfo := pool [(9, u "<init>"), (6, .class_ 18), (1, u "java/lang/Object"), (0, u "()V"), (1, .class_ 23), (1, u "jdk/internal/util/ArraysSupport"), (0, u "LOG2_ARRAY_LONG_INDEX_SCALE"), (0, u "I"), (2, u "U"), (0, u "Ljdk/internal/misc/Unsafe;"), (8, u "BIG_ENDIAN"), (0, u "Z"), (8, u "LOG2_BYTE_BIT_SIZE"), (4, u "LOG2_ARRAY_INT_INDEX_SCALE"), (54, u "JLA"), (0, u "Ljdk/internal/access/JavaLangAccess;"), (11, u "LOG2_ARRAY_BOOLEAN_INDEX_SCALE"), (9, u "LOG2_ARRAY_BYTE_INDEX_SCALE"), (5, u "LOG2_ARRAY_CHAR_INDEX_SCALE"), (5, u "LOG2_ARRAY_SHORT_INDEX_SCALE"), (18, u "LOG2_ARRAY_FLOAT_INDEX_SCALE"), (24, u "LOG2_ARRAY_DOUBLE_INDEX_SCALE"), (89, u "T_BOOLEAN"), (2, u "T_CHAR"), (1, u "T_FLOAT"), (1, u "T_DOUBLE"), (1, u "T_BYTE"), (1, u "T_SHORT"), (1, u "T_INT"), (1, u "T_LONG"), (1, u "SOFT_MAX_ARRAY_LENGTH")] 83

def k24m0 : Method := { name := "<init>", desc := "()V", sig := { parameters := [], returnType := none }, accessFlags := 2, code := none }
/-- jdk/internal/util/ArraysSupport -/
def k24 : Class := { plain "jdk/internal/util/ArraysSupport" (some 0) with
  accessFlags := 33
  interfaces := #[]
  cf := some (fileOf pool24 21 #[] #[{ accessFlags := 2, nameIndex := 9, descriptorIndex := 19, attributes := #[] }] 33 16 #[] #[{ accessFlags := 24, nameIndex := 28, descriptorIndex := 29, attributes := #[] }, { accessFlags := 26, nameIndex := 38, descriptorIndex := 39, attributes := #[] }, { accessFlags := 25, nameIndex := 121, descriptorIndex := 25, attributes := #[] }, { accessFlags := 25, nameIndex := 131, descriptorIndex := 25, attributes := #[] }, { accessFlags := 25, nameIndex := 137, descriptorIndex := 25, attributes := #[] }, { accessFlags := 25, nameIndex := 143, descriptorIndex := 25, attributes := #[] }, { accessFlags := 25, nameIndex := 53, descriptorIndex := 25, attributes := #[] }, { accessFlags := 25, nameIndex := 24, descriptorIndex := 25, attributes := #[] }, { accessFlags := 25, nameIndex := 162, descriptorIndex := 25, attributes := #[] }, { accessFlags := 25, nameIndex := 187, descriptorIndex := 25, attributes := #[] }, { accessFlags := 26, nameIndex := 48, descriptorIndex := 25, attributes := #[] }, { accessFlags := 25, nameIndex := 277, descriptorIndex := 25, attributes := #[] }, { accessFlags := 25, nameIndex := 280, descriptorIndex := 25, attributes := #[] }, { accessFlags := 25, nameIndex := 282, descriptorIndex := 25, attributes := #[] }, { accessFlags := 25, nameIndex := 284, descriptorIndex := 25, attributes := #[] }, { accessFlags := 25, nameIndex := 286, descriptorIndex := 25, attributes := #[] }, { accessFlags := 25, nameIndex := 288, descriptorIndex := 25, attributes := #[] }, { accessFlags := 25, nameIndex := 290, descriptorIndex := 25, attributes := #[] }, { accessFlags := 25, nameIndex := 292, descriptorIndex := 25, attributes := #[] }, { accessFlags := 26, nameIndex := 108, descriptorIndex := 109, attributes := #[] }, { accessFlags := 25, nameIndex := 294, descriptorIndex := 25, attributes := #[] }])
  fields := #[{ name := "U", type := (.object "jdk/internal/misc/Unsafe"), accessFlags := 24, slot := 0, constantValue := 0 }, { name := "BIG_ENDIAN", type := .boolean, accessFlags := 26, slot := 1, constantValue := 0 }, { name := "LOG2_ARRAY_BOOLEAN_INDEX_SCALE", type := .int, accessFlags := 25, slot := 2, constantValue := 0 }, { name := "LOG2_ARRAY_BYTE_INDEX_SCALE", type := .int, accessFlags := 25, slot := 3, constantValue := 0 }, { name := "LOG2_ARRAY_CHAR_INDEX_SCALE", type := .int, accessFlags := 25, slot := 4, constantValue := 0 }, { name := "LOG2_ARRAY_SHORT_INDEX_SCALE", type := .int, accessFlags := 25, slot := 5, constantValue := 0 }, { name := "LOG2_ARRAY_INT_INDEX_SCALE", type := .int, accessFlags := 25, slot := 6, constantValue := 0 }, { name := "LOG2_ARRAY_LONG_INDEX_SCALE", type := .int, accessFlags := 25, slot := 7, constantValue := 0 }, { name := "LOG2_ARRAY_FLOAT_INDEX_SCALE", type := .int, accessFlags := 25, slot := 8, constantValue := 0 }, { name := "LOG2_ARRAY_DOUBLE_INDEX_SCALE", type := .int, accessFlags := 25, slot := 9, constantValue := 0 }, { name := "LOG2_BYTE_BIT_SIZE", type := .int, accessFlags := 26, slot := 10, constantValue := 0 }, { name := "T_BOOLEAN", type := .int, accessFlags := 25, slot := 11, constantValue := 0 }, { name := "T_CHAR", type := .int, accessFlags := 25, slot := 12, constantValue := 0 }, { name := "T_FLOAT", type := .int, accessFlags := 25, slot := 13, constantValue := 0 }, { name := "T_DOUBLE", type := .int, accessFlags := 25, slot := 14, constantValue := 0 }, { name := "T_BYTE", type := .int, accessFlags := 25, slot := 15, constantValue := 0 }, { name := "T_SHORT", type := .int, accessFlags := 25, slot := 16, constantValue := 0 }, { name := "T_INT", type := .int, accessFlags := 25, slot := 17, constantValue := 0 }, { name := "T_LONG", type := .int, accessFlags := 25, slot := 18, constantValue := 0 }, { name := "JLA", type := (.object "jdk/internal/access/JavaLangAccess"), accessFlags := 26, slot := 19, constantValue := 0 }, { name := "SOFT_MAX_ARRAY_LENGTH", type := .int, accessFlags := 25, slot := 20, constantValue := 0 }]
  methods := #[k24m0]
  instanceTypes := #[]
  staticTypes := #[(.object "jdk/internal/misc/Unsafe"), .boolean, .int, .int, .int, .int, .int, .int, .int, .int, .int, .int, .int, .int, .int, .int, .int, .int, .int, (.object "jdk/internal/access/JavaLangAccess"), .int]
  resolved := Array.replicate 378 none
  statics := none }

def pool25 : Array CpInfo := pool [(2, .class_ 4), (1, u "java/lang/Object"), (0, u "<init>"), (0, u "()V"), (12, .class_ 20), (0, u "java/util/Collections"), (63, u "r"), (0, u "Ljava/util/Random;"), (80, .class_ 167), (0, u "java/util/Collections$UnmodifiableCollection"), (6, .class_ 175), (0, u "java/util/Collections$UnmodifiableSequencedCollection"), (6, .class_ 183), (0, u "java/util/Collections$UnmodifiableSet"), (6, .class_ 191), (0, u "java/util/Collections$UnmodifiableSequencedSet"), (6, .class_ 199), (0, u "java/util/Collections$UnmodifiableSortedSet"), (6, .class_ 207), (0, u "java/util/Collections$UnmodifiableNavigableSet"), (4, .class_ 213), (0, u "java/util/Collections$UnmodifiableList"), (1, .class_ 216), (0, u "java/util/Collections$UnmodifiableRandomAccessList"), (6, .class_ 224), (0, u "java/util/Collections$UnmodifiableMap"), (6, .class_ 232), (0, u "java/util/Collections$UnmodifiableSequencedMap"), (4, .class_ 238), (0, u "java/util/Collections$UnmodifiableSortedMap"), (6, .class_ 246), (0, u "java/util/Collections$UnmodifiableNavigableMap"), (3, .class_ 251), (0, u "java/util/Collections$SynchronizedCollection"), (4, .class_ 257), (0, u "java/util/Collections$SynchronizedSet"), (4, .class_ 263), (0, u "java/util/Collections$SynchronizedSortedSet"), (1, .class_ 266), (0, u "java/util/Collections$SynchronizedNavigableSet"), (1, .class_ 269), (0, u "java/util/Collections$SynchronizedRandomAccessList"), (1, .class_ 272), (0, u "java/util/Collections$SynchronizedList"), (5, .class_ 279), (0, u "java/util/Collections$SynchronizedMap"), (1, .class_ 282), (0, u "java/util/Collections$SynchronizedSortedMap"), (1, .class_ 285), (0, u "java/util/Collections$SynchronizedNavigableMap"), (1, .class_ 288), (0, u "java/util/Collections$CheckedCollection"), (11, .class_ 301), (0, u "java/util/Collections$CheckedQueue"), (3, .class_ 306), (0, u "java/util/Collections$CheckedSet"), (3, .class_ 311), (0, u "java/util/Collections$CheckedSortedSet"), (3, .class_ 316), (0, u "java/util/Collections$CheckedNavigableSet"), (3, .class_ 321), (0, u "java/util/Collections$CheckedRandomAccessList"), (3, .class_ 326), (0, u "java/util/Collections$CheckedList"), (1, .class_ 329), (0, u "java/util/Collections$CheckedMap"), (3, .class_ 334), (0, u "java/util/Collections$CheckedSortedMap"), (3, .class_ 339), (0, u "java/util/Collections$CheckedNavigableMap"), (4, .class_ 346), (1, u "java/util/Collections$EmptyIterator"), (3, .class_ 352), (1, u "java/util/Collections$EmptyListIterator"), (2, .class_ 357), (1, u "java/util/Collections$EmptyEnumeration"), (4, u "EMPTY_SET"), (0, u "Ljava/util/Set;"), (6, u "EMPTY_LIST"), (0, u "Ljava/util/List;"), (2, u "EMPTY_MAP"), (0, u "Ljava/util/Map;"), (4, .class_ 381), (0, u "java/util/Collections$SingletonSet"), (2, .class_ 385), (0, u "java/util/Collections$1"), (1, .class_ 388), (0, u "java/util/Collections$2"), (1, .class_ 391), (0, u "java/util/Collections$SingletonList"), (1, .class_ 394), (0, u "java/util/Collections$SingletonMap"), (22, .class_ 418), (0, u "java/util/Collections$CopiesList"), (4, .class_ 425), (1, u "java/util/Collections$ReverseComparator"), (8, .class_ 435), (0, u "java/util/Collections$ReverseComparator2"), (6, .class_ 443), (0, u "java/util/Collections$3"), (25, .class_ 470), (0, u "java/util/Collections$SetFromMap"), (2, .class_ 474), (0, u "java/util/Collections$SequencedSetFromMap"), (3, .class_ 479), (0, u "java/util/Collections$AsLIFOQueue"), (11, .class_ 492), (0, u "java/util/Collections$EmptySet"), (1, .class_ 495), (0, u "java/util/Collections$EmptyList"), (1, .class_ 498), (0, u "java/util/Collections$EmptyMap"), (1, u "BINARYSEARCH_THRESHOLD"), (0, u "I"), (2, u "REVERSE_THRESHOLD"), (1, u "SHUFFLE_THRESHOLD"), (1, u "FILL_THRESHOLD"), (1, u "ROTATE_THRESHOLD"), (1, u "COPY_THRESHOLD"), (1, u "REPLACEALL_THRESHOLD"), (1, u "INDEXOFSUBLIST_THRESHOLD"), (333, .class_ 851), (0, u "java/util/Collections$CheckedMap$CheckedEntrySet"), (0, .class_ 853), (0, u "java/util/Collections$CheckedMap$CheckedEntrySet$CheckedEntry"), (0, .class_ 855), (0, u "java/util/Collections$CheckedMap$CheckedEntrySet$1"), (0, .class_ 857), (0, u "java/util/Collections$CheckedList$1"), (0, .class_ 859), (0, u "java/util/Collections$CheckedCollection$1"), (0, .class_ 861), (0, u "java/util/Collections$UnmodifiableNavigableMap$EmptyNavigableMap"), (0, .class_ 863), (0, u "java/util/Collections$UnmodifiableMap$UnmodifiableEntrySet"), (0, .class_ 865), (0, u "java/util/Collections$UnmodifiableMap$UnmodifiableEntrySet$UnmodifiableEntry"), (0, .class_ 867), (0, u "java/util/Collections$UnmodifiableMap$UnmodifiableEntrySet$UnmodifiableEntrySetSpliterator"), (0, .class_ 869), (0, u "java/util/Collections$UnmodifiableMap$UnmodifiableEntrySet$1"), (0, .class_ 871), (0, u "java/util/Collections$UnmodifiableList$1"), (0, .class_ 873), (0, u "java/util/Collections$UnmodifiableNavigableSet$EmptyNavigableSet"), (0, .class_ 875), (0, u "java/util/Collections$UnmodifiableCollection$1")] 57

def k25m0 : Method := { name := "<init>", desc := "()V", sig := { parameters := [], returnType := none }, accessFlags := 2, code := none }
/-- java/util/Collections -/
def k25 : Class := { plain "java/util/Collections" (some 0) with
  accessFlags := 33
  interfaces := #[]
  cf := some (fileOf pool25 19 #[.nestMembers #[478, 473, 469, 434, 423, 417, 393, 390, 380, 497, 494, 491, 355, 350, 344, 338, 333, 328, 850, 852, 854, 320, 325, 856, 315, 310, 305, 300, 287, 858, 284, 281, 278, 268, 271, 265, 262, 256, 250, 245, 860, 237, 231, 223, 862, 864, 866, 868, 215, 212, 870, 206, 872, 198, 190, 182, 174, 166, 874, 442, 387, 384]] #[{ accessFlags := 2, nameIndex := 5, descriptorIndex := 6, attributes := #[] }] 33 2 #[] #[{ accessFlags := 26, nameIndex := 500, descriptorIndex := 501, attributes := #[] }, { accessFlags := 26, nameIndex := 504, descriptorIndex := 501, attributes := #[] }, { accessFlags := 26, nameIndex := 506, descriptorIndex := 501, attributes := #[] }, { accessFlags := 26, nameIndex := 508, descriptorIndex := 501, attributes := #[] }, { accessFlags := 26, nameIndex := 510, descriptorIndex := 501, attributes := #[] }, { accessFlags := 26, nameIndex := 512, descriptorIndex := 501, attributes := #[] }, { accessFlags := 26, nameIndex := 514, descriptorIndex := 501, attributes := #[] }, { accessFlags := 26, nameIndex := 516, descriptorIndex := 501, attributes := #[] }, { accessFlags := 10, nameIndex := 84, descriptorIndex := 85, attributes := #[] }, { accessFlags := 25, nameIndex := 362, descriptorIndex := 363, attributes := #[] }, { accessFlags := 25, nameIndex := 370, descriptorIndex := 371, attributes := #[] }, { accessFlags := 25, nameIndex := 374, descriptorIndex := 375, attributes := #[] }])
  fields := #[{ name := "BINARYSEARCH_THRESHOLD", type := .int, accessFlags := 26, slot := 0, constantValue := 0 }, { name := "REVERSE_THRESHOLD", type := .int, accessFlags := 26, slot := 1, constantValue := 0 }, { name := "SHUFFLE_THRESHOLD", type := .int, accessFlags := 26, slot := 2, constantValue := 0 }, { name := "FILL_THRESHOLD", type := .int, accessFlags := 26, slot := 3, constantValue := 0 }, { name := "ROTATE_THRESHOLD", type := .int, accessFlags := 26, slot := 4, constantValue := 0 }, { name := "COPY_THRESHOLD", type := .int, accessFlags := 26, slot := 5, constantValue := 0 }, { name := "REPLACEALL_THRESHOLD", type := .int, accessFlags := 26, slot := 6, constantValue := 0 }, { name := "INDEXOFSUBLIST_THRESHOLD", type := .int, accessFlags := 26, slot := 7, constantValue := 0 }, { name := "r", type := (.object "java/util/Random"), accessFlags := 10, slot := 8, constantValue := 0 }, { name := "EMPTY_SET", type := (.object "java/util/Set"), accessFlags := 25, slot := 9, constantValue := 0 }, { name := "EMPTY_LIST", type := (.object "java/util/List"), accessFlags := 25, slot := 10, constantValue := 0 }, { name := "EMPTY_MAP", type := (.object "java/util/Map"), accessFlags := 25, slot := 11, constantValue := 0 }]
  methods := #[k25m0]
  instanceTypes := #[]
  staticTypes := #[.int, .int, .int, .int, .int, .int, .int, .int, (.object "java/util/Random"), (.object "java/util/Set"), (.object "java/util/List"), (.object "java/util/Map")]
  resolved := Array.replicate 933 none
  statics := some 4 }

def pool26 : Array CpInfo := pool [(8, .class_ 10), (1, u "java/lang/Iterable"), (24, .class_ 36), (0, u "java/lang/Object")] 25

/-- java/lang/Iterable -/
def k26 : Class := { plain "java/lang/Iterable" (some 0) with
  accessFlags := 1537
  interfaces := #[]
  cf := some (fileOf pool26 8 #[] #[] 1537 35 #[] #[])
  fields := #[]
  methods := #[]
  instanceTypes := #[]
  staticTypes := #[]
  resolved := Array.replicate 62 none
  statics := none }

def pool27 : Array CpInfo := pool [(10, .class_ 12), (1, u "java/util/Collection"), (47, .class_ 61), (0, u "java/lang/Object"), (0, .class_ 63), (0, u "java/lang/Iterable")] 51

/-- java/util/Collection -/
def k27 : Class := { plain "java/util/Collection" (some 0) with
  accessFlags := 1537
  interfaces := #[26]
  cf := some (fileOf pool27 10 #[] #[] 1537 60 #[62] #[])
  fields := #[]
  methods := #[]
  instanceTypes := #[]
  staticTypes := #[]
  resolved := Array.replicate 115 none
  statics := none }

def pool28 : Array CpInfo := pool [(2, .class_ 4), (1, u "java/lang/Object"), (0, u "<init>"), (0, u "()V"), (1, .class_ 10), (1, u "java/util/AbstractCollection"), (66, .class_ 78), (0, u "java/util/Collection")] 81

def k28m0 : Method := { name := "<init>", desc := "()V", sig := { parameters := [], returnType := none }, accessFlags := 4, code := none }
/-- java/util/AbstractCollection -/
def k28 : Class := { plain "java/util/AbstractCollection" (some 0) with
  accessFlags := 1057
  interfaces := #[27]
  cf := some (fileOf pool28 8 #[] #[{ accessFlags := 4, nameIndex := 5, descriptorIndex := 6, attributes := #[] }] 1057 2 #[77] #[])
  fields := #[]
  methods := #[k28m0]
  instanceTypes := #[]
  staticTypes := #[]
  resolved := Array.replicate 160 none
  statics := none }

def pool29 : Array CpInfo := pool [(8, .class_ 10), (1, u "java/util/SequencedCollection"), (15, .class_ 27), (0, u "java/lang/Object"), (0, .class_ 29), (0, u "java/util/Collection")] 27

/-- java/util/SequencedCollection -/
def k29 : Class := { plain "java/util/SequencedCollection" (some 0) with
  accessFlags := 1537
  interfaces := #[27]
  cf := some (fileOf pool29 8 #[] #[] 1537 26 #[28] #[])
  fields := #[]
  methods := #[]
  instanceTypes := #[]
  staticTypes := #[]
  resolved := Array.replicate 57 none
  statics := none }

def pool30 : Array CpInfo := pool [(8, .class_ 10), (1, u "java/util/List"), (92, .class_ 104), (0, u "java/lang/Object"), (15, .class_ 121), (0, u "java/util/SequencedCollection")] 129

/-- java/util/List -/
def k30 : Class := { plain "java/util/List" (some 0) with
  accessFlags := 1537
  interfaces := #[29]
  cf := some (fileOf pool30 8 #[] #[] 1537 103 #[120] #[])
  fields := #[]
  methods := #[]
  instanceTypes := #[]
  staticTypes := #[]
  resolved := Array.replicate 251 none
  statics := none }

def pool31 : Array CpInfo := pool [(2, .class_ 4), (1, u "java/util/AbstractCollection"), (0, u "<init>"), (0, u "()V"), (1, .class_ 10), (1, u "java/util/AbstractList"), (0, u "modCount"), (0, u "I"), (64, .class_ 78), (0, u "java/util/AbstractList$Itr"), (3, .class_ 83), (0, u "java/util/AbstractList$ListItr"), (9, .class_ 94), (0, u "java/util/AbstractList$RandomAccessSubList"), (3, .class_ 99), (0, u "java/util/AbstractList$SubList"), (33, .class_ 134), (0, u "java/util/List"), (73, .class_ 209), (0, u "java/util/AbstractList$SubList$1"), (0, .class_ 211), (0, u "java/util/AbstractList$RandomAccessSpliterator")] 6

def k31m0 : Method := { name := "<init>", desc := "()V", sig := { parameters := [], returnType := none }, accessFlags := 4, code := none }
/-- java/util/AbstractList -/
def k31 : Class := { plain "java/util/AbstractList" (some 28) with
  accessFlags := 1057
  interfaces := #[30]
  cf := some (fileOf pool31 8 #[.nestMembers #[93, 98, 208, 210, 82, 77]] #[{ accessFlags := 4, nameIndex := 5, descriptorIndex := 6, attributes := #[] }] 1057 2 #[133] #[{ accessFlags := 132, nameIndex := 11, descriptorIndex := 12, attributes := #[] }])
  fields := #[{ name := "modCount", type := .int, accessFlags := 132, slot := 0, constantValue := 0 }]
  methods := #[k31m0]
  instanceTypes := #[.int]
  staticTypes := #[]
  resolved := Array.replicate 218 none
  statics := none }

def pool32 : Array CpInfo := pool [(1, .class_ 2), (0, u "java/util/RandomAccess"), (0, .class_ 4), (0, u "java/lang/Object")] 2

/-- java/util/RandomAccess -/
def k32 : Class := { plain "java/util/RandomAccess" (some 0) with
  accessFlags := 1537
  interfaces := #[]
  cf := some (fileOf pool32 1 #[] #[] 1537 3 #[] #[])
  fields := #[]
  methods := #[]
  instanceTypes := #[]
  staticTypes := #[]
  resolved := Array.replicate 7 none
  statics := none }

def pool33 : Array CpInfo := pool [(2, .class_ 4), (1, u "java/util/AbstractList"), (0, u "<init>"), (0, u "()V"), (1, .class_ 10), (1, u "java/util/Collections"), (54, .class_ 66), (0, u "java/util/Collections$EmptyList"), (0, .class_ 68), (0, u "java/util/RandomAccess"), (0, .class_ 70), (0, u "java/io/Serializable"), (0, u "serialVersionUID"), (0, u "J")] 77

def k33m0 : Method := { name := "<init>", desc := "()V", sig := { parameters := [], returnType := none }, accessFlags := 2, code := none }
/-- java/util/Collections$EmptyList -/
def k33 : Class := { plain "java/util/Collections$EmptyList" (some 31) with
  accessFlags := 32
  interfaces := #[32, 2]
  cf := some (fileOf pool33 65 #[.nestHost 8] #[{ accessFlags := 2, nameIndex := 5, descriptorIndex := 6, attributes := #[] }] 32 2 #[67, 69] #[{ accessFlags := 26, nameIndex := 71, descriptorIndex := 72, attributes := #[] }])
  fields := #[{ name := "serialVersionUID", type := .long, accessFlags := 26, slot := 0, constantValue := 0 }]
  methods := #[k33m0]
  instanceTypes := #[.int]
  staticTypes := #[.long]
  resolved := Array.replicate 150 none
  statics := none }

def pool34 : Array CpInfo := pool [(2, .class_ 4), (1, u "java/lang/StackTraceElement"), (0, u "<init>"), (2, .class_ 10), (1, u "java/lang/Object"), (0, u "()V"), (2, u "format"), (0, u "B"), (2, u "classLoaderName"), (0, u "Ljava/lang/String;"), (2, u "moduleName"), (2, u "moduleVersion"), (12, u "declaringClass"), (4, u "methodName"), (2, u "fileName"), (2, u "lineNumber"), (0, u "I"), (65, u "declaringClassObject"), (0, u "Ljava/lang/Class;"), (33, .class_ 153), (1, u "java/lang/StackTraceElement$HashedModules"), (17, .class_ 172), (0, u "java/io/Serializable"), (0, u "NATIVE_METHOD"), (1, u "UNKNOWN_SOURCE"), (2, u "BUILTIN_CLASS_LOADER"), (1, u "JDK_NON_UPGRADEABLE_MODULE"), (1, u "serialVersionUID"), (0, u "J")] 51

def k34m0 : Method := { name := "<init>", desc := "()V", sig := { parameters := [], returnType := none }, accessFlags := 2, code := none }
/-- java/lang/StackTraceElement -/
def k34 : Class := { plain "java/lang/StackTraceElement" (some 0) with
  accessFlags := 49
  interfaces := #[2]
  cf := some (fileOf pool34 2 #[.nestMembers #[151]] #[{ accessFlags := 2, nameIndex := 5, descriptorIndex := 11, attributes := #[] }] 49 8 #[171] #[{ accessFlags := 26, nameIndex := 173, descriptorIndex := 19, attributes := #[] }, { accessFlags := 26, nameIndex := 175, descriptorIndex := 19, attributes := #[] }, { accessFlags := 130, nameIndex := 116, descriptorIndex := 117, attributes := #[] }, { accessFlags := 2, nameIndex := 18, descriptorIndex := 19, attributes := #[] }, { accessFlags := 2, nameIndex := 22, descriptorIndex := 19, attributes := #[] }, { accessFlags := 2, nameIndex := 25, descriptorIndex := 19, attributes := #[] }, { accessFlags := 2, nameIndex := 38, descriptorIndex := 19, attributes := #[] }, { accessFlags := 2, nameIndex := 43, descriptorIndex := 19, attributes := #[] }, { accessFlags := 2, nameIndex := 46, descriptorIndex := 19, attributes := #[] }, { accessFlags := 2, nameIndex := 49, descriptorIndex := 50, attributes := #[] }, { accessFlags := 2, nameIndex := 14, descriptorIndex := 15, attributes := #[] }, { accessFlags := 26, nameIndex := 178, descriptorIndex := 15, attributes := #[] }, { accessFlags := 26, nameIndex := 180, descriptorIndex := 15, attributes := #[] }, { accessFlags := 26, nameIndex := 182, descriptorIndex := 183, attributes := #[] }])
  fields := #[{ name := "NATIVE_METHOD", type := (.object "java/lang/String"), accessFlags := 26, slot := 0, constantValue := 0 }, { name := "UNKNOWN_SOURCE", type := (.object "java/lang/String"), accessFlags := 26, slot := 1, constantValue := 0 }, { name := "declaringClassObject", type := (.object "java/lang/Class"), accessFlags := 130, slot := 0, constantValue := 0 }, { name := "classLoaderName", type := (.object "java/lang/String"), accessFlags := 2, slot := 1, constantValue := 0 }, { name := "moduleName", type := (.object "java/lang/String"), accessFlags := 2, slot := 2, constantValue := 0 }, { name := "moduleVersion", type := (.object "java/lang/String"), accessFlags := 2, slot := 3, constantValue := 0 }, { name := "declaringClass", type := (.object "java/lang/String"), accessFlags := 2, slot := 4, constantValue := 0 }, { name := "methodName", type := (.object "java/lang/String"), accessFlags := 2, slot := 5, constantValue := 0 }, { name := "fileName", type := (.object "java/lang/String"), accessFlags := 2, slot := 6, constantValue := 0 }, { name := "lineNumber", type := .int, accessFlags := 2, slot := 7, constantValue := 0 }, { name := "format", type := .byte, accessFlags := 2, slot := 8, constantValue := 0 }, { name := "BUILTIN_CLASS_LOADER", type := .byte, accessFlags := 26, slot := 2, constantValue := 0 }, { name := "JDK_NON_UPGRADEABLE_MODULE", type := .byte, accessFlags := 26, slot := 3, constantValue := 0 }, { name := "serialVersionUID", type := .long, accessFlags := 26, slot := 4, constantValue := 0 }]
  methods := #[k34m0]
  instanceTypes := #[(.object "java/lang/Class"), (.object "java/lang/String"), (.object "java/lang/String"), (.object "java/lang/String"), (.object "java/lang/String"), (.object "java/lang/String"), (.object "java/lang/String"), .int, .byte]
  staticTypes := #[(.object "java/lang/String"), (.object "java/lang/String"), .byte, .byte, .long]
  resolved := Array.replicate 235 none
  statics := none }

/-- the primitive byte -/
def k35 : Class := { plain "byte" none with kind := .primitive 'B', accessFlags := 0x411 }
/-- [B -/
def k36 : Class := { plain "[B" (some 0) with kind := .array 35 .byte, interfaces := #[22, 2], accessFlags := 1041 }

/-- the primitive char -/
def k37 : Class := { plain "char" none with kind := .primitive 'C', accessFlags := 0x411 }
/-- [C -/
def k38 : Class := { plain "[C" (some 0) with kind := .array 37 .char, interfaces := #[22, 2], accessFlags := 1041 }

/-- the primitive int -/
def k39 : Class := { plain "int" none with kind := .primitive 'I', accessFlags := 0x411 }
/-- [I -/
def k40 : Class := { plain "[I" (some 0) with kind := .array 39 .int, interfaces := #[22, 2], accessFlags := 1041 }

/-- [Ljava/lang/Object; -/
def k41 : Class := { plain "[Ljava/lang/Object;" (some 0) with kind := .array 0 (.object "java/lang/Object"), interfaces := #[22, 2], accessFlags := 1041 }

/-- [Ljava/lang/StackTraceElement; -/
def k42 : Class := { plain "[Ljava/lang/StackTraceElement;" (some 0) with kind := .array 34 (.object "java/lang/StackTraceElement"), interfaces := #[22, 2], accessFlags := 1041 }

/-- [Ljava/lang/Throwable; -/
def k43 : Class := { plain "[Ljava/lang/Throwable;" (some 0) with kind := .array 10 (.object "java/lang/Throwable"), interfaces := #[22, 2], accessFlags := 1041 }

def heap : Heap := #[{ cls := 7, slots := #[.long 0, .int 1, .null, .int 0, .null, .int 0, .int 0], vm := .statics 7 },
  { cls := 10, slots := #[.long 0, .ref 5, .ref 6, .null, .null, .null, .null, .ref 7, .int 1], vm := .statics 10 },
  { cls := 21, slots := #[.null, .null, .null], vm := .statics 21 },
  { cls := 23, slots := #[.int 0, .int 8, .int 0, .int 1], vm := .statics 23 },
  { cls := 25, slots := #[.int 0, .int 0, .int 0, .int 0, .int 0, .int 0, .int 0, .int 0, .null, .null, .ref 6, .null], vm := .statics 25 },
  { cls := 42, slots := #[], vm := .none },
  { cls := 33, slots := #[.int 0], vm := .none },
  { cls := 43, slots := #[], vm := .none }]
def classes : Array Class := #[k0, k1, k2, k3, k4, k5, k6, k7, k8, k9, k10, k11, k12, k13, k14, k15, k16, k17, k18, k19, k20, k21, k22, k23, k24, k25, k26, k27, k28, k29, k30, k31, k32, k33, k34, k35, k36, k37, k38, k39, k40, k41, k42, k43]
def interned : List (Array UInt16 × Addr) := []
def slotsUsed : Nat := 36
def theMethod : MethodId := ⟨1, 1⟩
def args0 : Array Value := #[.int 5, .int 6, .int 7, .int 8]
def aboutOver (below : List Frame) : State where
  vm := { classes := classes, interned := interned.toArray }
  heap := heap
  slotsUsed := slotsUsed
  threads := #[{ frames := .invoking theMethod args0 :: below }]
def below0 : List Frame := [.native { method := ⟨0, 0⟩, args := #[] }]
def about1 : State := aboutOver below0
def p0 : Program := .bare "" "" ""
def e0 : Env := launch0.env 0 0 0
theorem w_frames : about1.frames = Frame.invoking theMethod args0 :: below0 := rfl
set_option maxRecDepth 65536 in
theorem w_args : argsFit about1.vm theMethod args0 = true := by decide +kernel
set_option maxRecDepth 65536 in
theorem w_heap : heapFits about1 = true := by decide +kernel
set_option maxRecDepth 65536 in
theorem w_runnable : about1.curStatus? = some .runnable := by decide +kernel
set_option maxRecDepth 65536 in
theorem w_alone : about1.alone = true := by decide +kernel
set_option maxRecDepth 65536 in
theorem w_named : about1.methodNamed? x = some theMethod := by decide +kernel
set_option maxRecDepth 65536 in
theorem w_hears : about1.hears theMethod below0 = true := by decide +kernel
set_option maxRecDepth 65536 in
theorem w_ripe : about1.ripe theMethod args0 below0 = true := by decide +kernel
theorem w_running : about1.status = .running := rfl
set_option maxRecDepth 65536 in
theorem w_room : about1.hasRoom e0.platform room_1 = true :=
  launch0.hasRoom_least _ room_1 (by decide +kernel) (by decide +kernel) (by decide +kernel) (by decide +kernel) (by decide +kernel) (by decide +kernel)
theorem allAtoms_all (ts : List Jvm.Cond) (a : Array Jvm.Value) (st : Jvm.State) : (allAtoms ts).before a st = ts.all (fun c => c.before a st) := by
  induction ts with
  | nil => rfl
  | cons c t ih =>
    show (Jvm.Cond.and c (allAtoms t)).before a st = _
    rw [Jvm.Cond.before_and, ih, List.all_cons]
def words1 : List Jvm.Cond := Jvm.Cond.code x code maxLocals ret :: tables_1
/-- a 'code' word, met by the world's own term for the bytes: nothing is compared byte by byte -/
theorem code_word {y : MethodName} {bytes : ByteArray} {mx : Nat} {rt : Option FieldType} {a : Array Value} {s : State} {m : MethodId} {meth : Method} {c : Code} (h1 : s.methodNamed? y = some m) (h2 : s.vm.method? m = some meth) (h3 : meth.code = some c) (h4 : c.code = bytes)
    (h5 : (c.maxLocals == mx && c.exceptionTable.isEmpty && decide (c.maxStack ≤ mostOperands) && decide (meth.sig.returnType = rt) && !meth.locks && decide (parseMethodDescriptor y.desc = some meth.sig)) = true) : (Jvm.Cond.code y bytes mx rt).before a s = true := by
  simp only [Bool.and_eq_true, beq_iff_eq, Bool.not_eq_true', decide_eq_true_eq] at h5
  obtain ⟨⟨⟨⟨⟨g1, g2⟩, g3⟩, g4⟩, g5⟩, g6⟩ := h5
  simp [Cond.before, Cond.holds, Cond.value, h1, h2, h3, h4, g1, g2, g3, g4, g5, g6]
def isCode : Jvm.Cond → Bool
  | .code _ _ _ _ => true
  | _ => false
theorem all_split {L : List Jvm.Cond} {P : Jvm.Cond → Bool} (h1 : L.all (fun c => isCode c || P c) = true) (h2 : ∀ c ∈ L.filter isCode, P c = true) : L.all P = true := by
  refine List.all_eq_true.mpr fun c hc => ?_
  have h := List.all_eq_true.mp h1 c hc
  rcases Bool.eq_false_or_eq_true (isCode c) with hi | hi
  · exact h2 c (List.mem_filter.mpr ⟨hc, hi⟩)
  · simpa [hi] using h
set_option maxRecDepth 65536 in
theorem w_c0 : (Jvm.Cond.code x code maxLocals ret).before args0 about1 = true := code_word (m := ⟨1, 1⟩) (meth := k1m1) (c := k1c1) (by decide +kernel) rfl rfl rfl (by decide +kernel)
set_option maxRecDepth 65536 in
theorem w_c1 : (Jvm.Cond.code ({ cls := "java/lang/String", name := "<init>", desc := "([C)V" } : Jvm.MethodName) jdk_42_method_3_code (2 : Nat) (Option.none : Option Jvm.ClassFile.FieldType)).before args0 about1 = true := code_word (m := ⟨7, 1⟩) (meth := k7m1) (c := k7c1) (by decide +kernel) rfl rfl rfl (by decide +kernel)
set_option maxRecDepth 65536 in
theorem w_c2 : (Jvm.Cond.code ({ cls := "java/lang/String", name := "<init>", desc := "([CIILjava/lang/Void;)V" } : Jvm.MethodName) jdk_42_method_149_code (6 : Nat) (Option.none : Option Jvm.ClassFile.FieldType)).before args0 about1 = true := code_word (m := ⟨7, 6⟩) (meth := k7m6) (c := k7c6) (by decide +kernel) rfl rfl rfl (by decide +kernel)
set_option maxRecDepth 65536 in
theorem w_c3 : (Jvm.Cond.code ({ cls := "java/lang/Object", name := "<init>", desc := "()V" } : Jvm.MethodName) object_method_1_code (1 : Nat) (Option.none : Option Jvm.ClassFile.FieldType)).before args0 about1 = true := code_word (m := ⟨0, 0⟩) (meth := k0m0) (c := k0c0) (by decide +kernel) rfl rfl rfl (by decide +kernel)
set_option maxRecDepth 65536 in
theorem w_c4 : (Jvm.Cond.code ({ cls := "com/example/sieve_for_sparql/sieveforsparql/Options", name := "missing", desc := "(Ljava/lang/String;)Lcom/example/sieve_for_sparql/sieveforsparql/InputException;" } : Jvm.MethodName) prog_4_method_10_code (1 : Nat) (Option.some (Jvm.ClassFile.FieldType.object "com/example/sieve_for_sparql/sieveforsparql/InputException"))).before args0 about1 = true := code_word (m := ⟨9, 0⟩) (meth := k9m0) (c := k9c0) (by decide +kernel) rfl rfl rfl (by decide +kernel)
set_option maxRecDepth 65536 in
theorem w_c5 : (Jvm.Cond.code ({ cls := "java/lang/StringBuilder", name := "<init>", desc := "()V" } : Jvm.MethodName) jdk_67_method_1_code (1 : Nat) (Option.none : Option Jvm.ClassFile.FieldType)).before args0 about1 = true := code_word (m := ⟨16, 0⟩) (meth := k16m0) (c := k16c0) (by decide +kernel) rfl rfl rfl (by decide +kernel)
set_option maxRecDepth 65536 in
theorem w_c6 : (Jvm.Cond.code ({ cls := "java/lang/AbstractStringBuilder", name := "<init>", desc := "(I)V" } : Jvm.MethodName) jdk_68_method_2_code (2 : Nat) (Option.none : Option Jvm.ClassFile.FieldType)).before args0 about1 = true := code_word (m := ⟨15, 1⟩) (meth := k15m1) (c := k15c1) (by decide +kernel) rfl rfl rfl (by decide +kernel)
set_option maxRecDepth 65536 in
theorem w_c7 : (Jvm.Cond.code ({ cls := "java/lang/StringBuilder", name := "append", desc := "(Ljava/lang/String;)Ljava/lang/StringBuilder;" } : Jvm.MethodName) jdk_67_method_7_code (2 : Nat) (Option.some (Jvm.ClassFile.FieldType.object "java/lang/StringBuilder"))).before args0 about1 = true := code_word (m := ⟨16, 1⟩) (meth := k16m1) (c := k16c1) (by decide +kernel) rfl rfl rfl (by decide +kernel)
set_option maxRecDepth 65536 in
theorem w_c8 : (Jvm.Cond.code ({ cls := "java/lang/AbstractStringBuilder", name := "append", desc := "(Ljava/lang/String;)Ljava/lang/AbstractStringBuilder;" } : Jvm.MethodName) jdk_68_method_22_code (3 : Nat) (Option.some (Jvm.ClassFile.FieldType.object "java/lang/AbstractStringBuilder"))).before args0 about1 = true := code_word (m := ⟨15, 5⟩) (meth := k15m5) (c := k15c5) (by decide +kernel) rfl rfl rfl (by decide +kernel)
set_option maxRecDepth 65536 in
theorem w_c9 : (Jvm.Cond.code ({ cls := "java/lang/String", name := "length", desc := "()I" } : Jvm.MethodName) jdk_42_method_54_code (1 : Nat) (Option.some Jvm.ClassFile.FieldType.int)).before args0 about1 = true := code_word (m := ⟨7, 3⟩) (meth := k7m3) (c := k7c3) (by decide +kernel) rfl rfl rfl (by decide +kernel)
set_option maxRecDepth 65536 in
theorem w_c10 : (Jvm.Cond.code ({ cls := "java/lang/String", name := "coder", desc := "()B" } : Jvm.MethodName) jdk_42_method_152_code (1 : Nat) (Option.some Jvm.ClassFile.FieldType.byte)).before args0 about1 = true := code_word (m := ⟨7, 8⟩) (meth := k7m8) (c := k7c8) (by decide +kernel) rfl rfl rfl (by decide +kernel)
set_option maxRecDepth 65536 in
theorem w_c11 : (Jvm.Cond.code ({ cls := "java/lang/AbstractStringBuilder", name := "ensureCapacityInternal", desc := "(I)V" } : Jvm.MethodName) jdk_68_method_9_code (3 : Nat) (Option.none : Option Jvm.ClassFile.FieldType)).before args0 about1 = true := code_word (m := ⟨15, 3⟩) (meth := k15m3) (c := k15c3) (by decide +kernel) rfl rfl rfl (by decide +kernel)
set_option maxRecDepth 65536 in
theorem w_c12 : (Jvm.Cond.code ({ cls := "java/lang/AbstractStringBuilder", name := "putStringAt", desc := "(ILjava/lang/String;)V" } : Jvm.MethodName) jdk_68_method_73_code (3 : Nat) (Option.none : Option Jvm.ClassFile.FieldType)).before args0 about1 = true := code_word (m := ⟨15, 10⟩) (meth := k15m10) (c := k15c10) (by decide +kernel) rfl rfl rfl (by decide +kernel)
set_option maxRecDepth 65536 in
theorem w_c13 : (Jvm.Cond.code ({ cls := "java/lang/AbstractStringBuilder", name := "inflateIfNeededFor", desc := "(Ljava/lang/String;)V" } : Jvm.MethodName) jdk_68_method_71_code (2 : Nat) (Option.none : Option Jvm.ClassFile.FieldType)).before args0 about1 = true := code_word (m := ⟨15, 9⟩) (meth := k15m9) (c := k15c9) (by decide +kernel) rfl rfl rfl (by decide +kernel)
set_option maxRecDepth 65536 in
theorem w_c14 : (Jvm.Cond.code ({ cls := "java/lang/String", name := "getBytes", desc := "([BIB)V" } : Jvm.MethodName) jdk_42_method_147_code (4 : Nat) (Option.none : Option Jvm.ClassFile.FieldType)).before args0 about1 = true := code_word (m := ⟨7, 5⟩) (meth := k7m5) (c := k7c5) (by decide +kernel) rfl rfl rfl (by decide +kernel)
set_option maxRecDepth 65536 in
theorem w_c15 : (Jvm.Cond.code ({ cls := "java/lang/StringBuilder", name := "toString", desc := "()Ljava/lang/String;" } : Jvm.MethodName) jdk_67_method_42_code (1 : Nat) (Option.some (Jvm.ClassFile.FieldType.object "java/lang/String"))).before args0 about1 = true := code_word (m := ⟨16, 2⟩) (meth := k16m2) (c := k16c2) (by decide +kernel) rfl rfl rfl (by decide +kernel)
set_option maxRecDepth 65536 in
theorem w_c16 : (Jvm.Cond.code ({ cls := "java/lang/String", name := "<init>", desc := "(Ljava/lang/StringBuilder;)V" } : Jvm.MethodName) jdk_42_method_53_code (2 : Nat) (Option.none : Option Jvm.ClassFile.FieldType)).before args0 about1 = true := code_word (m := ⟨7, 2⟩) (meth := k7m2) (c := k7c2) (by decide +kernel) rfl rfl rfl (by decide +kernel)
set_option maxRecDepth 65536 in
theorem w_c17 : (Jvm.Cond.code ({ cls := "java/lang/String", name := "<init>", desc := "(Ljava/lang/AbstractStringBuilder;Ljava/lang/Void;)V" } : Jvm.MethodName) jdk_42_method_150_code (5 : Nat) (Option.none : Option Jvm.ClassFile.FieldType)).before args0 about1 = true := code_word (m := ⟨7, 7⟩) (meth := k7m7) (c := k7c7) (by decide +kernel) rfl rfl rfl (by decide +kernel)
set_option maxRecDepth 65536 in
theorem w_c18 : (Jvm.Cond.code ({ cls := "java/lang/AbstractStringBuilder", name := "getValue", desc := "()[B" } : Jvm.MethodName) jdk_68_method_64_code (1 : Nat) (Option.some (Jvm.ClassFile.FieldType.array Jvm.ClassFile.FieldType.byte))).before args0 about1 = true := code_word (m := ⟨15, 7⟩) (meth := k15m7) (c := k15c7) (by decide +kernel) rfl rfl rfl (by decide +kernel)
set_option maxRecDepth 65536 in
theorem w_c19 : (Jvm.Cond.code ({ cls := "java/lang/StringBuilder", name := "length", desc := "()I" } : Jvm.MethodName) jdk_67_method_93_code (1 : Nat) (Option.some Jvm.ClassFile.FieldType.int)).before args0 about1 = true := code_word (m := ⟨16, 3⟩) (meth := k16m3) (c := k16c3) (by decide +kernel) rfl rfl rfl (by decide +kernel)
set_option maxRecDepth 65536 in
theorem w_c20 : (Jvm.Cond.code ({ cls := "java/lang/AbstractStringBuilder", name := "length", desc := "()I" } : Jvm.MethodName) jdk_68_method_6_code (1 : Nat) (Option.some Jvm.ClassFile.FieldType.int)).before args0 about1 = true := code_word (m := ⟨15, 2⟩) (meth := k15m2) (c := k15c2) (by decide +kernel) rfl rfl rfl (by decide +kernel)
set_option maxRecDepth 65536 in
theorem w_c21 : (Jvm.Cond.code ({ cls := "java/lang/AbstractStringBuilder", name := "isLatin1", desc := "()Z" } : Jvm.MethodName) jdk_68_method_68_code (1 : Nat) (Option.some Jvm.ClassFile.FieldType.boolean)).before args0 about1 = true := code_word (m := ⟨15, 8⟩) (meth := k15m8) (c := k15c8) (by decide +kernel) rfl rfl rfl (by decide +kernel)
set_option maxRecDepth 65536 in
theorem w_c22 : (Jvm.Cond.code ({ cls := "java/util/Arrays", name := "copyOfRange", desc := "([BII)[B" } : Jvm.MethodName) jdk_65_method_132_code (3 : Nat) (Option.some (Jvm.ClassFile.FieldType.array Jvm.ClassFile.FieldType.byte))).before args0 about1 = true := code_word (m := ⟨18, 2⟩) (meth := k18m2) (c := k18c2) (by decide +kernel) rfl rfl rfl (by decide +kernel)
set_option maxRecDepth 65536 in
theorem w_c23 : (Jvm.Cond.code ({ cls := "java/util/Arrays", name := "copyOfRangeByte", desc := "([BII)[B" } : Jvm.MethodName) jdk_65_method_133_code (5 : Nat) (Option.some (Jvm.ClassFile.FieldType.array Jvm.ClassFile.FieldType.byte))).before args0 about1 = true := code_word (m := ⟨18, 3⟩) (meth := k18m3) (c := k18c3) (by decide +kernel) rfl rfl rfl (by decide +kernel)
set_option maxRecDepth 65536 in
theorem w_c24 : (Jvm.Cond.code ({ cls := "java/util/Arrays", name := "checkLength", desc := "(II)V" } : Jvm.MethodName) jdk_65_method_131_code (2 : Nat) (Option.none : Option Jvm.ClassFile.FieldType)).before args0 about1 = true := code_word (m := ⟨18, 1⟩) (meth := k18m1) (c := k18c1) (by decide +kernel) rfl rfl rfl (by decide +kernel)
set_option maxRecDepth 65536 in
theorem w_c25 : (Jvm.Cond.code ({ cls := "java/lang/Math", name := "min", desc := "(II)I" } : Jvm.MethodName) jdk_29_method_69_code (2 : Nat) (Option.some Jvm.ClassFile.FieldType.int)).before args0 about1 = true := code_word (m := ⟨19, 1⟩) (meth := k19m1) (c := k19c1) (by decide +kernel) rfl rfl rfl (by decide +kernel)
set_option maxRecDepth 65536 in
theorem w_c26 : (Jvm.Cond.code ({ cls := "com/example/sieve_for_sparql/sieveforsparql/InputException", name := "<init>", desc := "(Ljava/lang/String;)V" } : Jvm.MethodName) prog_3_method_1_code (2 : Nat) (Option.none : Option Jvm.ClassFile.FieldType)).before args0 about1 = true := code_word (m := ⟨13, 0⟩) (meth := k13m0) (c := k13c0) (by decide +kernel) rfl rfl rfl (by decide +kernel)
set_option maxRecDepth 65536 in
theorem w_c27 : (Jvm.Cond.code ({ cls := "java/lang/RuntimeException", name := "<init>", desc := "(Ljava/lang/String;)V" } : Jvm.MethodName) jdk_58_method_2_code (2 : Nat) (Option.none : Option Jvm.ClassFile.FieldType)).before args0 about1 = true := code_word (m := ⟨12, 1⟩) (meth := k12m1) (c := k12c1) (by decide +kernel) rfl rfl rfl (by decide +kernel)
set_option maxRecDepth 65536 in
theorem w_c28 : (Jvm.Cond.code ({ cls := "java/lang/Exception", name := "<init>", desc := "(Ljava/lang/String;)V" } : Jvm.MethodName) jdk_59_method_2_code (2 : Nat) (Option.none : Option Jvm.ClassFile.FieldType)).before args0 about1 = true := code_word (m := ⟨11, 1⟩) (meth := k11m1) (c := k11c1) (by decide +kernel) rfl rfl rfl (by decide +kernel)
set_option maxRecDepth 65536 in
theorem w_c29 : (Jvm.Cond.code ({ cls := "java/lang/Throwable", name := "<init>", desc := "(Ljava/lang/String;)V" } : Jvm.MethodName) jdk_78_method_2_code (2 : Nat) (Option.none : Option Jvm.ClassFile.FieldType)).before args0 about1 = true := code_word (m := ⟨10, 1⟩) (meth := k10m1) (c := k10c1) (by decide +kernel) rfl rfl rfl (by decide +kernel)
set_option maxRecDepth 65536 in
theorem w_c30 : (Jvm.Cond.code ({ cls := "java/lang/Throwable", name := "<init>", desc := "()V" } : Jvm.MethodName) jdk_78_method_1_code (1 : Nat) (Option.none : Option Jvm.ClassFile.FieldType)).before args0 about1 = true := code_word (m := ⟨10, 0⟩) (meth := k10m0) (c := k10c0) (by decide +kernel) rfl rfl rfl (by decide +kernel)
set_option maxRecDepth 65536 in
theorem w_c31 : (Jvm.Cond.code ({ cls := "java/lang/Throwable", name := "getMessage", desc := "()Ljava/lang/String;" } : Jvm.MethodName) jdk_78_method_6_code (1 : Nat) (Option.some (Jvm.ClassFile.FieldType.object "java/lang/String"))).before args0 about1 = true := code_word (m := ⟨10, 2⟩) (meth := k10m2) (c := k10c2) (by decide +kernel) rfl rfl rfl (by decide +kernel)
set_option maxRecDepth 65536 in
theorem w_c32 : (Jvm.Cond.code ({ cls := "java/lang/String", name := "charAt", desc := "(I)C" } : Jvm.MethodName) jdk_42_method_56_code (2 : Nat) (Option.some Jvm.ClassFile.FieldType.char)).before args0 about1 = true := code_word (m := ⟨7, 4⟩) (meth := k7m4) (c := k7c4) (by decide +kernel) rfl rfl rfl (by decide +kernel)
set_option maxRecDepth 65536 in
theorem w_c33 : (Jvm.Cond.code ({ cls := "java/lang/String", name := "isLatin1", desc := "()Z" } : Jvm.MethodName) jdk_42_method_154_code (1 : Nat) (Option.some Jvm.ClassFile.FieldType.boolean)).before args0 about1 = true := code_word (m := ⟨7, 9⟩) (meth := k7m9) (c := k7c9) (by decide +kernel) rfl rfl rfl (by decide +kernel)
set_option maxRecDepth 65536 in
theorem w_c34 : (Jvm.Cond.code ({ cls := "java/lang/StringLatin1", name := "charAt", desc := "([BI)C" } : Jvm.MethodName) jdk_43_method_2_code (2 : Nat) (Option.some Jvm.ClassFile.FieldType.char)).before args0 about1 = true := code_word (m := ⟨20, 1⟩) (meth := k20m1) (c := k20c1) (by decide +kernel) rfl rfl rfl (by decide +kernel)
set_option maxRecDepth 65536 in
theorem w_c35 : (Jvm.Cond.code ({ cls := "java/lang/String", name := "checkIndex", desc := "(II)V" } : Jvm.MethodName) jdk_42_method_155_code (2 : Nat) (Option.none : Option Jvm.ClassFile.FieldType)).before args0 about1 = true := code_word (m := ⟨7, 10⟩) (meth := k7m10) (c := k7c10) (by decide +kernel) rfl rfl rfl (by decide +kernel)
set_option maxRecDepth 65536 in
theorem w_c36 : (Jvm.Cond.code ({ cls := "jdk/internal/util/Preconditions", name := "checkIndex", desc := "(IILjava/util/function/BiFunction;)I" } : Jvm.MethodName) jdk_41_method_11_code (3 : Nat) (Option.some Jvm.ClassFile.FieldType.int)).before args0 about1 = true := code_word (m := ⟨21, 1⟩) (meth := k21m1) (c := k21c1) (by decide +kernel) rfl rfl rfl (by decide +kernel)
set_option maxRecDepth 65536 in
theorem w_c37 : (Jvm.Cond.code ({ cls := "java/lang/AbstractStringBuilder", name := "appendNull", desc := "()Ljava/lang/AbstractStringBuilder;" } : Jvm.MethodName) jdk_68_method_26_code (3 : Nat) (Option.some (Jvm.ClassFile.FieldType.object "java/lang/AbstractStringBuilder"))).before args0 about1 = true := code_word (m := ⟨15, 6⟩) (meth := k15m6) (c := k15c6) (by decide +kernel) rfl rfl rfl (by decide +kernel)
set_option maxRecDepth 65536 in
theorem w_c38 : (Jvm.Cond.code ({ cls := "java/lang/StringUTF16", name := "compress", desc := "([CII)[B" } : Jvm.MethodName) jdk_52_method_16_code (6 : Nat) (Option.some (Jvm.ClassFile.FieldType.array Jvm.ClassFile.FieldType.byte))).before args0 about1 = true := code_word (m := ⟨23, 8⟩) (meth := k23m8) (c := k23c8) (by decide +kernel) rfl rfl rfl (by decide +kernel)
set_option maxRecDepth 65536 in
theorem w_c39 : (Jvm.Cond.code ({ cls := "java/lang/StringUTF16", name := "compress", desc := "([CI[BII)I" } : Jvm.MethodName) jdk_52_method_21_code (7 : Nat) (Option.some Jvm.ClassFile.FieldType.int)).before args0 about1 = true := code_word (m := ⟨23, 9⟩) (meth := k23m9) (c := k23c9) (by decide +kernel) rfl rfl rfl (by decide +kernel)
set_option maxRecDepth 65536 in
theorem w_c40 : (Jvm.Cond.code ({ cls := "java/lang/StringUTF16", name := "toBytes", desc := "([CII)[B" } : Jvm.MethodName) jdk_52_method_14_code (5 : Nat) (Option.some (Jvm.ClassFile.FieldType.array Jvm.ClassFile.FieldType.byte))).before args0 about1 = true := code_word (m := ⟨23, 6⟩) (meth := k23m6) (c := k23c6) (by decide +kernel) rfl rfl rfl (by decide +kernel)
set_option maxRecDepth 65536 in
theorem w_c41 : (Jvm.Cond.code ({ cls := "java/lang/StringUTF16", name := "newBytesFor", desc := "(I)[B" } : Jvm.MethodName) jdk_52_method_2_code (1 : Nat) (Option.some (Jvm.ClassFile.FieldType.array Jvm.ClassFile.FieldType.byte))).before args0 about1 = true := code_word (m := ⟨23, 1⟩) (meth := k23m1) (c := k23c1) (by decide +kernel) rfl rfl rfl (by decide +kernel)
set_option maxRecDepth 65536 in
theorem w_c42 : (Jvm.Cond.code ({ cls := "java/lang/StringUTF16", name := "newBytesLength", desc := "(I)I" } : Jvm.MethodName) jdk_52_method_3_code (1 : Nat) (Option.some Jvm.ClassFile.FieldType.int)).before args0 about1 = true := code_word (m := ⟨23, 2⟩) (meth := k23m2) (c := k23c2) (by decide +kernel) rfl rfl rfl (by decide +kernel)
set_option maxRecDepth 65536 in
theorem w_c43 : (Jvm.Cond.code ({ cls := "java/lang/StringUTF16", name := "putChar", desc := "([BII)V" } : Jvm.MethodName) jdk_52_method_4_code (3 : Nat) (Option.none : Option Jvm.ClassFile.FieldType)).before args0 about1 = true := code_word (m := ⟨23, 3⟩) (meth := k23m3) (c := k23c3) (by decide +kernel) rfl rfl rfl (by decide +kernel)
set_option maxRecDepth 65536 in
theorem w_c44 : (Jvm.Cond.code ({ cls := "java/lang/StringUTF16", name := "getChar", desc := "([BI)C" } : Jvm.MethodName) jdk_52_method_5_code (2 : Nat) (Option.some Jvm.ClassFile.FieldType.char)).before args0 about1 = true := code_word (m := ⟨23, 4⟩) (meth := k23m4) (c := k23c4) (by decide +kernel) rfl rfl rfl (by decide +kernel)
set_option maxRecDepth 65536 in
theorem w_c45 : (Jvm.Cond.code ({ cls := "java/lang/StringUTF16", name := "coderFromArrayLen", desc := "([BI)B" } : Jvm.MethodName) jdk_52_method_15_code (2 : Nat) (Option.some Jvm.ClassFile.FieldType.byte)).before args0 about1 = true := code_word (m := ⟨23, 7⟩) (meth := k23m7) (c := k23c7) (by decide +kernel) rfl rfl rfl (by decide +kernel)
set_option maxRecDepth 65536 in
theorem w_c46 : (Jvm.Cond.code ({ cls := "java/lang/AbstractStringBuilder", name := "inflate", desc := "()V" } : Jvm.MethodName) jdk_68_method_11_code (2 : Nat) (Option.none : Option Jvm.ClassFile.FieldType)).before args0 about1 = true := code_word (m := ⟨15, 4⟩) (meth := k15m4) (c := k15c4) (by decide +kernel) rfl rfl rfl (by decide +kernel)
set_option maxRecDepth 65536 in
theorem w_c47 : (Jvm.Cond.code ({ cls := "java/lang/StringLatin1", name := "inflate", desc := "([BI[BII)V" } : Jvm.MethodName) jdk_43_method_50_code (5 : Nat) (Option.none : Option Jvm.ClassFile.FieldType)).before args0 about1 = true := code_word (m := ⟨20, 2⟩) (meth := k20m2) (c := k20c2) (by decide +kernel) rfl rfl rfl (by decide +kernel)
set_option maxRecDepth 65536 in
theorem w_c48 : (Jvm.Cond.code ({ cls := "java/lang/StringUTF16", name := "inflate", desc := "([BI[BII)V" } : Jvm.MethodName) jdk_52_method_86_code (6 : Nat) (Option.none : Option Jvm.ClassFile.FieldType)).before args0 about1 = true := code_word (m := ⟨23, 11⟩) (meth := k23m11) (c := k23c11) (by decide +kernel) rfl rfl rfl (by decide +kernel)
set_option maxRecDepth 65536 in
theorem w_c49 : (Jvm.Cond.code ({ cls := "java/lang/StringUTF16", name := "checkBoundsOffCount", desc := "(II[B)V" } : Jvm.MethodName) jdk_52_method_94_code (3 : Nat) (Option.none : Option Jvm.ClassFile.FieldType)).before args0 about1 = true := code_word (m := ⟨23, 13⟩) (meth := k23m13) (c := k23c13) (by decide +kernel) rfl rfl rfl (by decide +kernel)
set_option maxRecDepth 65536 in
theorem w_c50 : (Jvm.Cond.code ({ cls := "java/lang/StringUTF16", name := "length", desc := "([B)I" } : Jvm.MethodName) jdk_52_method_6_code (1 : Nat) (Option.some Jvm.ClassFile.FieldType.int)).before args0 about1 = true := code_word (m := ⟨23, 5⟩) (meth := k23m5) (c := k23c5) (by decide +kernel) rfl rfl rfl (by decide +kernel)
set_option maxRecDepth 65536 in
theorem w_c51 : (Jvm.Cond.code ({ cls := "java/lang/String", name := "checkBoundsOffCount", desc := "(III)I" } : Jvm.MethodName) jdk_42_method_157_code (3 : Nat) (Option.some Jvm.ClassFile.FieldType.int)).before args0 about1 = true := code_word (m := ⟨7, 11⟩) (meth := k7m11) (c := k7c11) (by decide +kernel) rfl rfl rfl (by decide +kernel)
set_option maxRecDepth 65536 in
theorem w_c52 : (Jvm.Cond.code ({ cls := "jdk/internal/util/Preconditions", name := "checkFromIndexSize", desc := "(IIILjava/util/function/BiFunction;)I" } : Jvm.MethodName) jdk_41_method_13_code (4 : Nat) (Option.some Jvm.ClassFile.FieldType.int)).before args0 about1 = true := code_word (m := ⟨21, 2⟩) (meth := k21m2) (c := k21c2) (by decide +kernel) rfl rfl rfl (by decide +kernel)
set_option maxRecDepth 65536 in
theorem w_c53 : (Jvm.Cond.code ({ cls := "java/lang/StringUTF16", name := "charAt", desc := "([BI)C" } : Jvm.MethodName) jdk_52_method_83_code (2 : Nat) (Option.some Jvm.ClassFile.FieldType.char)).before args0 about1 = true := code_word (m := ⟨23, 10⟩) (meth := k23m10) (c := k23c10) (by decide +kernel) rfl rfl rfl (by decide +kernel)
set_option maxRecDepth 65536 in
theorem w_c54 : (Jvm.Cond.code ({ cls := "java/lang/StringUTF16", name := "checkIndex", desc := "(I[B)V" } : Jvm.MethodName) jdk_52_method_91_code (2 : Nat) (Option.none : Option Jvm.ClassFile.FieldType)).before args0 about1 = true := code_word (m := ⟨23, 12⟩) (meth := k23m12) (c := k23c12) (by decide +kernel) rfl rfl rfl (by decide +kernel)
def codes1 : List Jvm.Cond := [Jvm.Cond.code x code maxLocals ret, Jvm.Cond.code ({ cls := "java/lang/String", name := "<init>", desc := "([C)V" } : Jvm.MethodName) jdk_42_method_3_code (2 : Nat) (Option.none : Option Jvm.ClassFile.FieldType), Jvm.Cond.code ({ cls := "java/lang/String", name := "<init>", desc := "([CIILjava/lang/Void;)V" } : Jvm.MethodName) jdk_42_method_149_code (6 : Nat) (Option.none : Option Jvm.ClassFile.FieldType), Jvm.Cond.code ({ cls := "java/lang/Object", name := "<init>", desc := "()V" } : Jvm.MethodName) object_method_1_code (1 : Nat) (Option.none : Option Jvm.ClassFile.FieldType), Jvm.Cond.code ({ cls := "com/example/sieve_for_sparql/sieveforsparql/Options", name := "missing", desc := "(Ljava/lang/String;)Lcom/example/sieve_for_sparql/sieveforsparql/InputException;" } : Jvm.MethodName) prog_4_method_10_code (1 : Nat) (Option.some (Jvm.ClassFile.FieldType.object "com/example/sieve_for_sparql/sieveforsparql/InputException")), Jvm.Cond.code ({ cls := "java/lang/StringBuilder", name := "<init>", desc := "()V" } : Jvm.MethodName) jdk_67_method_1_code (1 : Nat) (Option.none : Option Jvm.ClassFile.FieldType), Jvm.Cond.code ({ cls := "java/lang/AbstractStringBuilder", name := "<init>", desc := "(I)V" } : Jvm.MethodName) jdk_68_method_2_code (2 : Nat) (Option.none : Option Jvm.ClassFile.FieldType), Jvm.Cond.code ({ cls := "java/lang/StringBuilder", name := "append", desc := "(Ljava/lang/String;)Ljava/lang/StringBuilder;" } : Jvm.MethodName) jdk_67_method_7_code (2 : Nat) (Option.some (Jvm.ClassFile.FieldType.object "java/lang/StringBuilder")), Jvm.Cond.code ({ cls := "java/lang/AbstractStringBuilder", name := "append", desc := "(Ljava/lang/String;)Ljava/lang/AbstractStringBuilder;" } : Jvm.MethodName) jdk_68_method_22_code (3 : Nat) (Option.some (Jvm.ClassFile.FieldType.object "java/lang/AbstractStringBuilder")), Jvm.Cond.code ({ cls := "java/lang/String", name := "length", desc := "()I" } : Jvm.MethodName) jdk_42_method_54_code (1 : Nat) (Option.some Jvm.ClassFile.FieldType.int), Jvm.Cond.code ({ cls := "java/lang/String", name := "coder", desc := "()B" } : Jvm.MethodName) jdk_42_method_152_code (1 : Nat) (Option.some Jvm.ClassFile.FieldType.byte), Jvm.Cond.code ({ cls := "java/lang/AbstractStringBuilder", name := "ensureCapacityInternal", desc := "(I)V" } : Jvm.MethodName) jdk_68_method_9_code (3 : Nat) (Option.none : Option Jvm.ClassFile.FieldType), Jvm.Cond.code ({ cls := "java/lang/AbstractStringBuilder", name := "putStringAt", desc := "(ILjava/lang/String;)V" } : Jvm.MethodName) jdk_68_method_73_code (3 : Nat) (Option.none : Option Jvm.ClassFile.FieldType), Jvm.Cond.code ({ cls := "java/lang/AbstractStringBuilder", name := "inflateIfNeededFor", desc := "(Ljava/lang/String;)V" } : Jvm.MethodName) jdk_68_method_71_code (2 : Nat) (Option.none : Option Jvm.ClassFile.FieldType), Jvm.Cond.code ({ cls := "java/lang/String", name := "getBytes", desc := "([BIB)V" } : Jvm.MethodName) jdk_42_method_147_code (4 : Nat) (Option.none : Option Jvm.ClassFile.FieldType), Jvm.Cond.code ({ cls := "java/lang/StringBuilder", name := "toString", desc := "()Ljava/lang/String;" } : Jvm.MethodName) jdk_67_method_42_code (1 : Nat) (Option.some (Jvm.ClassFile.FieldType.object "java/lang/String")), Jvm.Cond.code ({ cls := "java/lang/String", name := "<init>", desc := "(Ljava/lang/StringBuilder;)V" } : Jvm.MethodName) jdk_42_method_53_code (2 : Nat) (Option.none : Option Jvm.ClassFile.FieldType), Jvm.Cond.code ({ cls := "java/lang/String", name := "<init>", desc := "(Ljava/lang/AbstractStringBuilder;Ljava/lang/Void;)V" } : Jvm.MethodName) jdk_42_method_150_code (5 : Nat) (Option.none : Option Jvm.ClassFile.FieldType), Jvm.Cond.code ({ cls := "java/lang/AbstractStringBuilder", name := "getValue", desc := "()[B" } : Jvm.MethodName) jdk_68_method_64_code (1 : Nat) (Option.some (Jvm.ClassFile.FieldType.array Jvm.ClassFile.FieldType.byte)), Jvm.Cond.code ({ cls := "java/lang/StringBuilder", name := "length", desc := "()I" } : Jvm.MethodName) jdk_67_method_93_code (1 : Nat) (Option.some Jvm.ClassFile.FieldType.int), Jvm.Cond.code ({ cls := "java/lang/AbstractStringBuilder", name := "length", desc := "()I" } : Jvm.MethodName) jdk_68_method_6_code (1 : Nat) (Option.some Jvm.ClassFile.FieldType.int), Jvm.Cond.code ({ cls := "java/lang/AbstractStringBuilder", name := "isLatin1", desc := "()Z" } : Jvm.MethodName) jdk_68_method_68_code (1 : Nat) (Option.some Jvm.ClassFile.FieldType.boolean), Jvm.Cond.code ({ cls := "java/util/Arrays", name := "copyOfRange", desc := "([BII)[B" } : Jvm.MethodName) jdk_65_method_132_code (3 : Nat) (Option.some (Jvm.ClassFile.FieldType.array Jvm.ClassFile.FieldType.byte)), Jvm.Cond.code ({ cls := "java/util/Arrays", name := "copyOfRangeByte", desc := "([BII)[B" } : Jvm.MethodName) jdk_65_method_133_code (5 : Nat) (Option.some (Jvm.ClassFile.FieldType.array Jvm.ClassFile.FieldType.byte)), Jvm.Cond.code ({ cls := "java/util/Arrays", name := "checkLength", desc := "(II)V" } : Jvm.MethodName) jdk_65_method_131_code (2 : Nat) (Option.none : Option Jvm.ClassFile.FieldType), Jvm.Cond.code ({ cls := "java/lang/Math", name := "min", desc := "(II)I" } : Jvm.MethodName) jdk_29_method_69_code (2 : Nat) (Option.some Jvm.ClassFile.FieldType.int), Jvm.Cond.code ({ cls := "com/example/sieve_for_sparql/sieveforsparql/InputException", name := "<init>", desc := "(Ljava/lang/String;)V" } : Jvm.MethodName) prog_3_method_1_code (2 : Nat) (Option.none : Option Jvm.ClassFile.FieldType), Jvm.Cond.code ({ cls := "java/lang/RuntimeException", name := "<init>", desc := "(Ljava/lang/String;)V" } : Jvm.MethodName) jdk_58_method_2_code (2 : Nat) (Option.none : Option Jvm.ClassFile.FieldType), Jvm.Cond.code ({ cls := "java/lang/Exception", name := "<init>", desc := "(Ljava/lang/String;)V" } : Jvm.MethodName) jdk_59_method_2_code (2 : Nat) (Option.none : Option Jvm.ClassFile.FieldType), Jvm.Cond.code ({ cls := "java/lang/Throwable", name := "<init>", desc := "(Ljava/lang/String;)V" } : Jvm.MethodName) jdk_78_method_2_code (2 : Nat) (Option.none : Option Jvm.ClassFile.FieldType), Jvm.Cond.code ({ cls := "java/lang/Throwable", name := "<init>", desc := "()V" } : Jvm.MethodName) jdk_78_method_1_code (1 : Nat) (Option.none : Option Jvm.ClassFile.FieldType), Jvm.Cond.code ({ cls := "java/lang/Throwable", name := "getMessage", desc := "()Ljava/lang/String;" } : Jvm.MethodName) jdk_78_method_6_code (1 : Nat) (Option.some (Jvm.ClassFile.FieldType.object "java/lang/String")), Jvm.Cond.code ({ cls := "java/lang/String", name := "charAt", desc := "(I)C" } : Jvm.MethodName) jdk_42_method_56_code (2 : Nat) (Option.some Jvm.ClassFile.FieldType.char), Jvm.Cond.code ({ cls := "java/lang/String", name := "isLatin1", desc := "()Z" } : Jvm.MethodName) jdk_42_method_154_code (1 : Nat) (Option.some Jvm.ClassFile.FieldType.boolean), Jvm.Cond.code ({ cls := "java/lang/StringLatin1", name := "charAt", desc := "([BI)C" } : Jvm.MethodName) jdk_43_method_2_code (2 : Nat) (Option.some Jvm.ClassFile.FieldType.char), Jvm.Cond.code ({ cls := "java/lang/String", name := "checkIndex", desc := "(II)V" } : Jvm.MethodName) jdk_42_method_155_code (2 : Nat) (Option.none : Option Jvm.ClassFile.FieldType), Jvm.Cond.code ({ cls := "jdk/internal/util/Preconditions", name := "checkIndex", desc := "(IILjava/util/function/BiFunction;)I" } : Jvm.MethodName) jdk_41_method_11_code (3 : Nat) (Option.some Jvm.ClassFile.FieldType.int), Jvm.Cond.code ({ cls := "java/lang/AbstractStringBuilder", name := "appendNull", desc := "()Ljava/lang/AbstractStringBuilder;" } : Jvm.MethodName) jdk_68_method_26_code (3 : Nat) (Option.some (Jvm.ClassFile.FieldType.object "java/lang/AbstractStringBuilder")), Jvm.Cond.code ({ cls := "java/lang/StringUTF16", name := "compress", desc := "([CII)[B" } : Jvm.MethodName) jdk_52_method_16_code (6 : Nat) (Option.some (Jvm.ClassFile.FieldType.array Jvm.ClassFile.FieldType.byte)), Jvm.Cond.code ({ cls := "java/lang/StringUTF16", name := "compress", desc := "([CI[BII)I" } : Jvm.MethodName) jdk_52_method_21_code (7 : Nat) (Option.some Jvm.ClassFile.FieldType.int), Jvm.Cond.code ({ cls := "java/lang/StringUTF16", name := "toBytes", desc := "([CII)[B" } : Jvm.MethodName) jdk_52_method_14_code (5 : Nat) (Option.some (Jvm.ClassFile.FieldType.array Jvm.ClassFile.FieldType.byte)), Jvm.Cond.code ({ cls := "java/lang/StringUTF16", name := "newBytesFor", desc := "(I)[B" } : Jvm.MethodName) jdk_52_method_2_code (1 : Nat) (Option.some (Jvm.ClassFile.FieldType.array Jvm.ClassFile.FieldType.byte)), Jvm.Cond.code ({ cls := "java/lang/StringUTF16", name := "newBytesLength", desc := "(I)I" } : Jvm.MethodName) jdk_52_method_3_code (1 : Nat) (Option.some Jvm.ClassFile.FieldType.int), Jvm.Cond.code ({ cls := "java/lang/StringUTF16", name := "putChar", desc := "([BII)V" } : Jvm.MethodName) jdk_52_method_4_code (3 : Nat) (Option.none : Option Jvm.ClassFile.FieldType), Jvm.Cond.code ({ cls := "java/lang/StringUTF16", name := "getChar", desc := "([BI)C" } : Jvm.MethodName) jdk_52_method_5_code (2 : Nat) (Option.some Jvm.ClassFile.FieldType.char), Jvm.Cond.code ({ cls := "java/lang/StringUTF16", name := "coderFromArrayLen", desc := "([BI)B" } : Jvm.MethodName) jdk_52_method_15_code (2 : Nat) (Option.some Jvm.ClassFile.FieldType.byte), Jvm.Cond.code ({ cls := "java/lang/AbstractStringBuilder", name := "inflate", desc := "()V" } : Jvm.MethodName) jdk_68_method_11_code (2 : Nat) (Option.none : Option Jvm.ClassFile.FieldType), Jvm.Cond.code ({ cls := "java/lang/StringLatin1", name := "inflate", desc := "([BI[BII)V" } : Jvm.MethodName) jdk_43_method_50_code (5 : Nat) (Option.none : Option Jvm.ClassFile.FieldType), Jvm.Cond.code ({ cls := "java/lang/StringUTF16", name := "inflate", desc := "([BI[BII)V" } : Jvm.MethodName) jdk_52_method_86_code (6 : Nat) (Option.none : Option Jvm.ClassFile.FieldType), Jvm.Cond.code ({ cls := "java/lang/StringUTF16", name := "checkBoundsOffCount", desc := "(II[B)V" } : Jvm.MethodName) jdk_52_method_94_code (3 : Nat) (Option.none : Option Jvm.ClassFile.FieldType), Jvm.Cond.code ({ cls := "java/lang/StringUTF16", name := "length", desc := "([B)I" } : Jvm.MethodName) jdk_52_method_6_code (1 : Nat) (Option.some Jvm.ClassFile.FieldType.int), Jvm.Cond.code ({ cls := "java/lang/String", name := "checkBoundsOffCount", desc := "(III)I" } : Jvm.MethodName) jdk_42_method_157_code (3 : Nat) (Option.some Jvm.ClassFile.FieldType.int), Jvm.Cond.code ({ cls := "jdk/internal/util/Preconditions", name := "checkFromIndexSize", desc := "(IIILjava/util/function/BiFunction;)I" } : Jvm.MethodName) jdk_41_method_13_code (4 : Nat) (Option.some Jvm.ClassFile.FieldType.int), Jvm.Cond.code ({ cls := "java/lang/StringUTF16", name := "charAt", desc := "([BI)C" } : Jvm.MethodName) jdk_52_method_83_code (2 : Nat) (Option.some Jvm.ClassFile.FieldType.char), Jvm.Cond.code ({ cls := "java/lang/StringUTF16", name := "checkIndex", desc := "(I[B)V" } : Jvm.MethodName) jdk_52_method_91_code (2 : Nat) (Option.none : Option Jvm.ClassFile.FieldType)]
set_option maxRecDepth 65536 in
theorem codes_eq : words1.filter isCode = codes1 := rfl
theorem w_codes : ∀ c ∈ words1.filter isCode, c.before args0 about1 = true := by
  rw [codes_eq]
  intro c hc
  simp only [codes1, List.mem_cons, List.not_mem_nil, or_false] at hc
  rcases hc with rfl | rfl | rfl | rfl | rfl | rfl | rfl | rfl | rfl | rfl | rfl | rfl | rfl | rfl | rfl | rfl | rfl | rfl | rfl | rfl | rfl | rfl | rfl | rfl | rfl | rfl | rfl | rfl | rfl | rfl | rfl | rfl | rfl | rfl | rfl | rfl | rfl | rfl | rfl | rfl | rfl | rfl | rfl | rfl | rfl | rfl | rfl | rfl | rfl | rfl | rfl | rfl | rfl | rfl | rfl
  · exact w_c0
  · exact w_c1
  · exact w_c2
  · exact w_c3
  · exact w_c4
  · exact w_c5
  · exact w_c6
  · exact w_c7
  · exact w_c8
  · exact w_c9
  · exact w_c10
  · exact w_c11
  · exact w_c12
  · exact w_c13
  · exact w_c14
  · exact w_c15
  · exact w_c16
  · exact w_c17
  · exact w_c18
  · exact w_c19
  · exact w_c20
  · exact w_c21
  · exact w_c22
  · exact w_c23
  · exact w_c24
  · exact w_c25
  · exact w_c26
  · exact w_c27
  · exact w_c28
  · exact w_c29
  · exact w_c30
  · exact w_c31
  · exact w_c32
  · exact w_c33
  · exact w_c34
  · exact w_c35
  · exact w_c36
  · exact w_c37
  · exact w_c38
  · exact w_c39
  · exact w_c40
  · exact w_c41
  · exact w_c42
  · exact w_c43
  · exact w_c44
  · exact w_c45
  · exact w_c46
  · exact w_c47
  · exact w_c48
  · exact w_c49
  · exact w_c50
  · exact w_c51
  · exact w_c52
  · exact w_c53
  · exact w_c54
set_option maxRecDepth 65536 in
theorem w_t1 : (words1.take 24).all (fun c => isCode c || c.before args0 about1) = true := by decide +kernel
set_option maxRecDepth 65536 in
theorem w_t2 : ((words1.drop 24).take 24).all (fun c => isCode c || c.before args0 about1) = true := by decide +kernel
set_option maxRecDepth 65536 in
theorem w_t3 : (((words1.drop 24).drop 24).take 24).all (fun c => isCode c || c.before args0 about1) = true := by decide +kernel
set_option maxRecDepth 65536 in
theorem w_t4 : ((((words1.drop 24).drop 24).drop 24).take 24).all (fun c => isCode c || c.before args0 about1) = true := by decide +kernel
set_option maxRecDepth 65536 in
theorem w_t5 : (((((words1.drop 24).drop 24).drop 24).drop 24).take 24).all (fun c => isCode c || c.before args0 about1) = true := by decide +kernel
set_option maxRecDepth 65536 in
theorem w_t6 : ((((((words1.drop 24).drop 24).drop 24).drop 24).drop 24).take 24).all (fun c => isCode c || c.before args0 about1) = true := by decide +kernel
set_option maxRecDepth 65536 in
theorem w_t7 : (((((((words1.drop 24).drop 24).drop 24).drop 24).drop 24).drop 24).take 24).all (fun c => isCode c || c.before args0 about1) = true := by decide +kernel
set_option maxRecDepth 65536 in
theorem w_t8 : ((((((((words1.drop 24).drop 24).drop 24).drop 24).drop 24).drop 24).drop 24).take 24).all (fun c => isCode c || c.before args0 about1) = true := by decide +kernel
set_option maxRecDepth 65536 in
theorem w_t9 : (((((((((words1.drop 24).drop 24).drop 24).drop 24).drop 24).drop 24).drop 24).drop 24).take 24).all (fun c => isCode c || c.before args0 about1) = true := by decide +kernel
set_option maxRecDepth 65536 in
theorem w_t10 : ((((((((((words1.drop 24).drop 24).drop 24).drop 24).drop 24).drop 24).drop 24).drop 24).drop 24).take 24).all (fun c => isCode c || c.before args0 about1) = true := by decide +kernel
set_option maxRecDepth 65536 in
theorem w_t11 : (((((((((((words1.drop 24).drop 24).drop 24).drop 24).drop 24).drop 24).drop 24).drop 24).drop 24).drop 24).take 24).all (fun c => isCode c || c.before args0 about1) = true := by decide +kernel
set_option maxRecDepth 65536 in
theorem w_t12 : ((((((((((((words1.drop 24).drop 24).drop 24).drop 24).drop 24).drop 24).drop 24).drop 24).drop 24).drop 24).drop 24).take 24).all (fun c => isCode c || c.before args0 about1) = true := by decide +kernel
set_option maxRecDepth 65536 in
theorem w_t13 : ((((((((((((words1.drop 24).drop 24).drop 24).drop 24).drop 24).drop 24).drop 24).drop 24).drop 24).drop 24).drop 24).drop 24).all (fun c => isCode c || c.before args0 about1) = true := by decide +kernel
theorem w_tables : (allAtoms (Jvm.Cond.code x code maxLocals ret :: tables_1)).before args0 about1 = true := by
  rw [allAtoms_all]
  show words1.all (fun c => c.before args0 about1) = true
  refine all_split ?_ w_codes
  rw [← List.take_append_drop 24 words1, List.all_append, w_t1, ← List.take_append_drop 24 (words1.drop 24), List.all_append, w_t2, ← List.take_append_drop 24 ((words1.drop 24).drop 24), List.all_append, w_t3, ← List.take_append_drop 24 (((words1.drop 24).drop 24).drop 24), List.all_append, w_t4, ← List.take_append_drop 24 ((((words1.drop 24).drop 24).drop 24).drop 24), List.all_append, w_t5, ← List.take_append_drop 24 (((((words1.drop 24).drop 24).drop 24).drop 24).drop 24), List.all_append, w_t6, ← List.take_append_drop 24 ((((((words1.drop 24).drop 24).drop 24).drop 24).drop 24).drop 24), List.all_append, w_t7, ← List.take_append_drop 24 (((((((words1.drop 24).drop 24).drop 24).drop 24).drop 24).drop 24).drop 24), List.all_append, w_t8, ← List.take_append_drop 24 ((((((((words1.drop 24).drop 24).drop 24).drop 24).drop 24).drop 24).drop 24).drop 24), List.all_append, w_t9, ← List.take_append_drop 24 (((((((((words1.drop 24).drop 24).drop 24).drop 24).drop 24).drop 24).drop 24).drop 24).drop 24), List.all_append, w_t10, ← List.take_append_drop 24 ((((((((((words1.drop 24).drop 24).drop 24).drop 24).drop 24).drop 24).drop 24).drop 24).drop 24).drop 24), List.all_append, w_t11, ← List.take_append_drop 24 (((((((((((words1.drop 24).drop 24).drop 24).drop 24).drop 24).drop 24).drop 24).drop 24).drop 24).drop 24).drop 24), List.all_append, w_t12, w_t13]
  rfl
set_option maxRecDepth 65536 in
theorem w_rest : rest_1_c.before args0 about1 = true := by decide +kernel
set_option maxRecDepth 65536 in
theorem w_case : (Jvm.Cond.and given_1 narrow_1).before args0 about1 = true := by decide +kernel
set_option maxRecDepth 65536 in
theorem w_consts : constsHeld consts_1 about1 := Jvm.Lit.constsHeldB_iff.mp (by decide +kernel)
theorem w_applies : (headSpec (Jvm.Cond.code x code maxLocals ret :: tables_1) room_1).applies x e0.platform about1 = true :=
  (Spec.applies_iff w_frames).mpr ⟨w_running, w_runnable, w_alone, w_named, w_hears, w_ripe, w_room, w_tables⟩
theorem atStart : AtStart classFile x code maxLocals ret World_1 tables_1 room_1 Calls_1 rest_1 Pre_1 launch0 p0 e0 about1 theMethod args0 below0 :=
  ⟨lists_1, trivial, launch0.admits_env _ _ _, launch0.least_env, fairChoices_fair.cas, fairChoices_fair.clock, w_frames, w_args, w_heap, w_applies, ⟨(by decide +kernel : framesKnown about1 = true), ⟨(by decide +kernel : tablesKnown about1 = true), ⟨w_consts, trivial⟩⟩⟩, w_rest, w_case⟩
end start1
theorem witness_1 : WitnessClaimed_1 := ⟨start1.p0, start1.e0, start1.about1, start1.theMethod, start1.args0, start1.below0, start1.atStart⟩
end Jvm.Pilot.@@N@@
