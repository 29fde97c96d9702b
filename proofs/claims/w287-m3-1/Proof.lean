import JvmDerived
import JvmDerived.Pilot.@@N@@Statement
import JvmDerived.Pilot.@@N@@Code
set_option linter.unusedVariables false
set_option linter.unusedSimpArgs false
@@BLOCK:NumsL.lean.txt@@
namespace Jvm.Pilot.@@N@@
open Jvm Jvm.ClassFile Sem Op Lib Jvm.Free Jvm.Stand Jvm.LawKit Jvm.RoadKit Bundle Jvm.Pilot.@@N@@.Jvm.D
section Own
variable {p : Program} {l : Launch} {e : Env} {R : Room} {s : State} {m : MethodId} {args : Array Value} {below : List Frame} {meth : Method} {c : Code} {T : State} {locs : List Loc} {cells slots : Nat} {Q : Option Value → Heap → List Loc → Prop} {K N : Nat} {s' : State} {E : State → Outcome → State → List Loc → Nat → Nat → Prop}
/-- the run from a ends in a return of which Q holds, within the frame -/
def own_End (p : Program) (e : Env) (below : List Frame) (s : State) (Q : Option Value → Heap → List Loc → Prop) (K N : Nat) (a : State) (E : State → Outcome → State → List Loc → Nat → Nat → Prop := FrameEnd) : Prop :=
  ∃ s₂ o, Steps p.tables e below a s₂ ∧ s₂.status = .running ∧ Ended s₂ below o ∧ ∃ v L, o = .returned v ∧ Q v s₂.heap L ∧ E s o s₂ L K N
theorem own_back {a b : State} (k : ∀ t, Steps p.tables e below b t → Steps p.tables e below a t) (h : own_End p e below s Q K N b E) : own_End p e below s Q K N a E := by
  obtain ⟨s₂, o, h1, h2⟩ := h
  exact ⟨s₂, o, k _ h1, h2⟩
theorem own_via {a b : State} (k : Steps p.tables e below a b) (h : own_End p e below s Q K N b E) : own_End p e below s Q K N a E :=
  own_back (fun _ j => k.trans j) h
/-- behind a call by contract: nothing to substitute, the places written under a name of their own -/
theorem own_shutS {g : JFrame} {rest : List Value} {Q : Option Value → Heap → List Loc → Prop} {rc rs n0 : Nat} {val : Option Value} (N : Fr n0 locs) (hv : ∀ v h L, Q v h L → v = val ∧ Fr n0 L)
    (H : ∃ (v : Option Value) (vm₁ : Vm) (B : Pt), s.WarmedH vm₁ ∧ Stand p l e R s m args below meth c B.U B.locs B.cells B.slots ∧ (∃ L, Q v B.U.heap L ∧ B.locs = locs ++ L ∧ B.cells = cells + rc ∧ B.slots = slots + rs) ∧
      ∀ target, Steps p.tables e below (B.U.setTop { g with pc := g.pc + 3, stack := v.toList ++ rest }) target → Steps p.tables e below (T.setTop g) target) :
    ∃ (T' : State) (L L' : List Loc), Stand p l e R s m args below meth c T' L' (cells + rc) (slots + rs) ∧ Fr n0 L' ∧ Q val T'.heap L ∧ ∀ target, Steps p.tables e below (T'.setTop { g with pc := g.pc + 3, stack := val.toList ++ rest }) target → Steps p.tables e below (T.setTop g) target := by
  obtain ⟨v, vm₁, ⟨T', L', k', n'⟩, -, X, ⟨L, q, l1, l2, l3⟩, st⟩ := H
  subst l1 l2 l3
  obtain ⟨hv1, hv2⟩ := hv _ _ _ q
  cases hv1
  exact ⟨T', L, _, X, N.app hv2, q, st⟩
theorem own_shutV {g : JFrame} {rest : List Value} {Q : Option Value → Heap → List Loc → Prop} {rc rs n0 : Nat} {val : Option Value} {s₀ : State} (N : Fr n0 locs) (hv : ∀ v h L, Q v h L → v = val ∧ Fr n0 L)
    (H : ∃ (v : Option Value) (vm₁ : Vm) (B : Pt), s.WarmedH vm₁ ∧ Stand p l e R s m args below meth c B.U B.locs B.cells B.slots ∧ (∃ L, Q v B.U.heap L ∧ B.locs = locs ++ L ∧ B.cells = cells + rc ∧ B.slots = slots + rs) ∧
      Steps p.tables e below s₀ (B.U.setTop { g with pc := g.pc + 3, stack := v.toList ++ rest })) :
    ∃ (T' : State) (L L' : List Loc), Stand p l e R s m args below meth c T' L' (cells + rc) (slots + rs) ∧ Fr n0 L' ∧ Q val T'.heap L ∧ Steps p.tables e below s₀ (T'.setTop { g with pc := g.pc + 3, stack := val.toList ++ rest }) := by
  obtain ⟨v, vm₁, ⟨T', L', k', n'⟩, -, X, ⟨L, q, l1, l2, l3⟩, st⟩ := H
  subst l1 l2 l3
  obtain ⟨hv1, hv2⟩ := hv _ _ _ q
  cases hv1
  exact ⟨T', L, _, X, N.app hv2, q, st⟩
theorem own_gl {n0 : Nat} (X : Stand p l e R s m args below meth c T locs cells slots) (N : Fr n0 locs) : ∃ L, Stand p l e R s m args below meth c T L cells slots ∧ Fr n0 L := ⟨_, X, N⟩
theorem own_selfsel {y : MethodName} {n : Nat} (wi : (Jvm.Cond.instantiable y.cls n).before args s = true) (hp : s.PrivateAt y) (hi : (Jvm.Cond.instanceMethod y).before args s = true) (hy : y.cls ≠ "java/lang/invoke/MethodHandle" ∧ y.cls ≠ "java/lang/invoke/VarHandle") : (Jvm.Cond.selects y.cls y y).before args s = true := by
  obtain ⟨c, k, h1, h2, -, h4, -⟩ := Cond.instantiable_spec wi
  exact selects_self_of_private h1 h2 (Bool.or_eq_false_iff.mp h4).1 hp hi hy
theorem own_cast {a b : State} (q : a = b) (h : own_End p e below s Q K N b E) : own_End p e below s Q K N a E := q ▸ h
theorem own_iadd (X : Stand p l e R s' m args below meth c T locs cells slots) (hx : p.tables.exec = Jvm.exec) {pc q : Nat} {Ls : Array Slot} {rest : List Value} (hd : decode c.code pc = .ok (.iadd, 1)) {x y : Int32} (hq : pc + 1 = q) (h : own_End p e below s Q K N (T.setTop (mkF m q Ls (.int (x + y) :: rest))) E) : own_End p e below s Q K N (T.setTop (mkF m pc Ls (.int y :: .int x :: rest))) E := by
  subst hq; exact own_back (fun _ k => XS.iadd X.here hx rfl hd rfl k) h
theorem own_isub (X : Stand p l e R s' m args below meth c T locs cells slots) (hx : p.tables.exec = Jvm.exec) {pc q : Nat} {Ls : Array Slot} {rest : List Value} (hd : decode c.code pc = .ok (.isub, 1)) {x y : Int32} (hq : pc + 1 = q) (h : own_End p e below s Q K N (T.setTop (mkF m q Ls (.int (x - y) :: rest))) E) : own_End p e below s Q K N (T.setTop (mkF m pc Ls (.int y :: .int x :: rest))) E := by
  subst hq; exact own_back (fun _ k => XS.isub X.here hx rfl hd rfl k) h
theorem own_imul (X : Stand p l e R s' m args below meth c T locs cells slots) (hx : p.tables.exec = Jvm.exec) {pc q : Nat} {Ls : Array Slot} {rest : List Value} (hd : decode c.code pc = .ok (.imul, 1)) {x y : Int32} (hq : pc + 1 = q) (h : own_End p e below s Q K N (T.setTop (mkF m q Ls (.int (x * y) :: rest))) E) : own_End p e below s Q K N (T.setTop (mkF m pc Ls (.int y :: .int x :: rest))) E := by
  subst hq; exact own_back (fun _ k => XS.imul X.here hx rfl hd rfl k) h
theorem own_iand (X : Stand p l e R s' m args below meth c T locs cells slots) (hx : p.tables.exec = Jvm.exec) {pc q : Nat} {Ls : Array Slot} {rest : List Value} (hd : decode c.code pc = .ok (.iand, 1)) {x y : Int32} (hq : pc + 1 = q) (h : own_End p e below s Q K N (T.setTop (mkF m q Ls (.int (x &&& y) :: rest))) E) : own_End p e below s Q K N (T.setTop (mkF m pc Ls (.int y :: .int x :: rest))) E := by
  subst hq; exact own_back (fun _ k => XS.iand X.here hx rfl hd rfl k) h
theorem own_ior (X : Stand p l e R s' m args below meth c T locs cells slots) (hx : p.tables.exec = Jvm.exec) {pc q : Nat} {Ls : Array Slot} {rest : List Value} (hd : decode c.code pc = .ok (.ior, 1)) {x y : Int32} (hq : pc + 1 = q) (h : own_End p e below s Q K N (T.setTop (mkF m q Ls (.int (x ||| y) :: rest))) E) : own_End p e below s Q K N (T.setTop (mkF m pc Ls (.int y :: .int x :: rest))) E := by
  subst hq; exact own_back (fun _ k => XS.ior X.here hx rfl hd rfl k) h
theorem own_ixor (X : Stand p l e R s' m args below meth c T locs cells slots) (hx : p.tables.exec = Jvm.exec) {pc q : Nat} {Ls : Array Slot} {rest : List Value} (hd : decode c.code pc = .ok (.ixor, 1)) {x y : Int32} (hq : pc + 1 = q) (h : own_End p e below s Q K N (T.setTop (mkF m q Ls (.int (x ^^^ y) :: rest))) E) : own_End p e below s Q K N (T.setTop (mkF m pc Ls (.int y :: .int x :: rest))) E := by
  subst hq; exact own_back (fun _ k => XS.ixor X.here hx rfl hd rfl k) h
theorem own_ishl (X : Stand p l e R s' m args below meth c T locs cells slots) (hx : p.tables.exec = Jvm.exec) {pc q : Nat} {Ls : Array Slot} {rest : List Value} (hd : decode c.code pc = .ok (.ishl, 1)) {x y : Int32} (hq : pc + 1 = q) (h : own_End p e below s Q K N (T.setTop (mkF m q Ls (.int (x <<< (y &&& 31)) :: rest))) E) : own_End p e below s Q K N (T.setTop (mkF m pc Ls (.int y :: .int x :: rest))) E := by
  subst hq; exact own_back (fun _ k => XS.ishl X.here hx rfl hd rfl k) h
theorem own_ishr (X : Stand p l e R s' m args below meth c T locs cells slots) (hx : p.tables.exec = Jvm.exec) {pc q : Nat} {Ls : Array Slot} {rest : List Value} (hd : decode c.code pc = .ok (.ishr, 1)) {x y : Int32} (hq : pc + 1 = q) (h : own_End p e below s Q K N (T.setTop (mkF m q Ls (.int (x >>> (y &&& 31)) :: rest))) E) : own_End p e below s Q K N (T.setTop (mkF m pc Ls (.int y :: .int x :: rest))) E := by
  subst hq; exact own_back (fun _ k => XS.ishr X.here hx rfl hd rfl k) h
theorem own_iushr (X : Stand p l e R s' m args below meth c T locs cells slots) (hx : p.tables.exec = Jvm.exec) {pc q : Nat} {Ls : Array Slot} {rest : List Value} (hd : decode c.code pc = .ok (.iushr, 1)) {x y : Int32} (hq : pc + 1 = q) (h : own_End p e below s Q K N (T.setTop (mkF m q Ls (.int ((x.toUInt32 >>> (y &&& 31).toUInt32).toInt32) :: rest))) E) : own_End p e below s Q K N (T.setTop (mkF m pc Ls (.int y :: .int x :: rest))) E := by
  subst hq; exact own_back (fun _ k => XS.iushr X.here hx rfl hd rfl k) h
theorem own_ladd (X : Stand p l e R s' m args below meth c T locs cells slots) (hx : p.tables.exec = Jvm.exec) {pc q : Nat} {Ls : Array Slot} {rest : List Value} (hd : decode c.code pc = .ok (.ladd, 1)) {x y : Int64} (hq : pc + 1 = q) (h : own_End p e below s Q K N (T.setTop (mkF m q Ls (.long (x + y) :: rest))) E) : own_End p e below s Q K N (T.setTop (mkF m pc Ls (.long y :: .long x :: rest))) E := by
  subst hq; exact own_back (fun _ k => XS.ladd X.here hx rfl hd rfl k) h
theorem own_lsub (X : Stand p l e R s' m args below meth c T locs cells slots) (hx : p.tables.exec = Jvm.exec) {pc q : Nat} {Ls : Array Slot} {rest : List Value} (hd : decode c.code pc = .ok (.lsub, 1)) {x y : Int64} (hq : pc + 1 = q) (h : own_End p e below s Q K N (T.setTop (mkF m q Ls (.long (x - y) :: rest))) E) : own_End p e below s Q K N (T.setTop (mkF m pc Ls (.long y :: .long x :: rest))) E := by
  subst hq; exact own_back (fun _ k => XS.lsub X.here hx rfl hd rfl k) h
theorem own_lmul (X : Stand p l e R s' m args below meth c T locs cells slots) (hx : p.tables.exec = Jvm.exec) {pc q : Nat} {Ls : Array Slot} {rest : List Value} (hd : decode c.code pc = .ok (.lmul, 1)) {x y : Int64} (hq : pc + 1 = q) (h : own_End p e below s Q K N (T.setTop (mkF m q Ls (.long (x * y) :: rest))) E) : own_End p e below s Q K N (T.setTop (mkF m pc Ls (.long y :: .long x :: rest))) E := by
  subst hq; exact own_back (fun _ k => XS.lmul X.here hx rfl hd rfl k) h
theorem own_land (X : Stand p l e R s' m args below meth c T locs cells slots) (hx : p.tables.exec = Jvm.exec) {pc q : Nat} {Ls : Array Slot} {rest : List Value} (hd : decode c.code pc = .ok (.land, 1)) {x y : Int64} (hq : pc + 1 = q) (h : own_End p e below s Q K N (T.setTop (mkF m q Ls (.long (x &&& y) :: rest))) E) : own_End p e below s Q K N (T.setTop (mkF m pc Ls (.long y :: .long x :: rest))) E := by
  subst hq; exact own_back (fun _ k => XS.land X.here hx rfl hd rfl k) h
theorem own_lor (X : Stand p l e R s' m args below meth c T locs cells slots) (hx : p.tables.exec = Jvm.exec) {pc q : Nat} {Ls : Array Slot} {rest : List Value} (hd : decode c.code pc = .ok (.lor, 1)) {x y : Int64} (hq : pc + 1 = q) (h : own_End p e below s Q K N (T.setTop (mkF m q Ls (.long (x ||| y) :: rest))) E) : own_End p e below s Q K N (T.setTop (mkF m pc Ls (.long y :: .long x :: rest))) E := by
  subst hq; exact own_back (fun _ k => XS.lor X.here hx rfl hd rfl k) h
theorem own_lxor (X : Stand p l e R s' m args below meth c T locs cells slots) (hx : p.tables.exec = Jvm.exec) {pc q : Nat} {Ls : Array Slot} {rest : List Value} (hd : decode c.code pc = .ok (.lxor, 1)) {x y : Int64} (hq : pc + 1 = q) (h : own_End p e below s Q K N (T.setTop (mkF m q Ls (.long (x ^^^ y) :: rest))) E) : own_End p e below s Q K N (T.setTop (mkF m pc Ls (.long y :: .long x :: rest))) E := by
  subst hq; exact own_back (fun _ k => XS.lxor X.here hx rfl hd rfl k) h
theorem own_lshl (X : Stand p l e R s' m args below meth c T locs cells slots) (hx : p.tables.exec = Jvm.exec) {pc q : Nat} {Ls : Array Slot} {rest : List Value} (hd : decode c.code pc = .ok (.lshl, 1)) {x : Int64} {y : Int32} (hq : pc + 1 = q) (h : own_End p e below s Q K N (T.setTop (mkF m q Ls (.long (x <<< (y &&& 0x3f).toInt64) :: rest))) E) : own_End p e below s Q K N (T.setTop (mkF m pc Ls (.int y :: .long x :: rest))) E := by
  subst hq; exact own_back (fun _ k => XS.lshl X.here hx rfl hd rfl k) h
theorem own_lshr (X : Stand p l e R s' m args below meth c T locs cells slots) (hx : p.tables.exec = Jvm.exec) {pc q : Nat} {Ls : Array Slot} {rest : List Value} (hd : decode c.code pc = .ok (.lshr, 1)) {x : Int64} {y : Int32} (hq : pc + 1 = q) (h : own_End p e below s Q K N (T.setTop (mkF m q Ls (.long (x >>> (y &&& 0x3f).toInt64) :: rest))) E) : own_End p e below s Q K N (T.setTop (mkF m pc Ls (.int y :: .long x :: rest))) E := by
  subst hq; exact own_back (fun _ k => XS.lshr X.here hx rfl hd rfl k) h
theorem own_lushr (X : Stand p l e R s' m args below meth c T locs cells slots) (hx : p.tables.exec = Jvm.exec) {pc q : Nat} {Ls : Array Slot} {rest : List Value} (hd : decode c.code pc = .ok (.lushr, 1)) {x : Int64} {y : Int32} (hq : pc + 1 = q) (h : own_End p e below s Q K N (T.setTop (mkF m q Ls (.long ((x.toUInt64 >>> (y &&& 0x3f).toInt64.toUInt64).toInt64) :: rest))) E) : own_End p e below s Q K N (T.setTop (mkF m pc Ls (.int y :: .long x :: rest))) E := by
  subst hq; exact own_back (fun _ k => XS.lushr X.here hx rfl hd rfl k) h
theorem own_idiv (X : Stand p l e R s' m args below meth c T locs cells slots) (hx : p.tables.exec = Jvm.exec) {pc q : Nat} {Ls : Array Slot} {rest : List Value} (hd : decode c.code pc = .ok (.idiv, 1)) {x y : Int32} (hy : y ≠ 0) (hq : pc + 1 = q) (h : own_End p e below s Q K N (T.setTop (mkF m q Ls (.int (x / y) :: rest))) E) : own_End p e below s Q K N (T.setTop (mkF m pc Ls (.int y :: .int x :: rest))) E := by
  subst hq; exact own_back (fun _ k => XS.idiv X.here hx rfl hd rfl hy k) h
theorem own_irem (X : Stand p l e R s' m args below meth c T locs cells slots) (hx : p.tables.exec = Jvm.exec) {pc q : Nat} {Ls : Array Slot} {rest : List Value} (hd : decode c.code pc = .ok (.irem, 1)) {x y : Int32} (hy : y ≠ 0) (hq : pc + 1 = q) (h : own_End p e below s Q K N (T.setTop (mkF m q Ls (.int (x % y) :: rest))) E) : own_End p e below s Q K N (T.setTop (mkF m pc Ls (.int y :: .int x :: rest))) E := by
  subst hq; exact own_back (fun _ k => iremM X hx rfl hd rfl hy k) h
theorem own_ldiv (X : Stand p l e R s' m args below meth c T locs cells slots) (hx : p.tables.exec = Jvm.exec) {pc q : Nat} {Ls : Array Slot} {rest : List Value} (hd : decode c.code pc = .ok (.ldiv, 1)) {x y : Int64} (hy : y ≠ 0) (hq : pc + 1 = q) (h : own_End p e below s Q K N (T.setTop (mkF m q Ls (.long (x / y) :: rest))) E) : own_End p e below s Q K N (T.setTop (mkF m pc Ls (.long y :: .long x :: rest))) E := by
  subst hq; exact own_back (fun _ k => XS.ldiv X.here hx rfl hd rfl hy k) h
theorem own_lrem (X : Stand p l e R s' m args below meth c T locs cells slots) (hx : p.tables.exec = Jvm.exec) {pc q : Nat} {Ls : Array Slot} {rest : List Value} (hd : decode c.code pc = .ok (.lrem, 1)) {x y : Int64} (hy : y ≠ 0) (hq : pc + 1 = q) (h : own_End p e below s Q K N (T.setTop (mkF m q Ls (.long (x - (x / y) * y) :: rest))) E) : own_End p e below s Q K N (T.setTop (mkF m pc Ls (.long y :: .long x :: rest))) E := by
  subst hq; exact own_back (fun _ k => XS.lrem X.here hx rfl hd rfl hy k) h
theorem own_ineg (X : Stand p l e R s' m args below meth c T locs cells slots) (hx : p.tables.exec = Jvm.exec) {pc q : Nat} {Ls : Array Slot} {rest : List Value} (hd : decode c.code pc = .ok (.ineg, 1)) {x : Int32} (hq : pc + 1 = q) (h : own_End p e below s Q K N (T.setTop (mkF m q Ls (.int (-x) :: rest))) E) : own_End p e below s Q K N (T.setTop (mkF m pc Ls (.int x :: rest))) E := by
  subst hq; exact own_back (fun _ k => XS.ineg X.here hx rfl hd rfl k) h
theorem own_lneg (X : Stand p l e R s' m args below meth c T locs cells slots) (hx : p.tables.exec = Jvm.exec) {pc q : Nat} {Ls : Array Slot} {rest : List Value} (hd : decode c.code pc = .ok (.lneg, 1)) {x : Int64} (hq : pc + 1 = q) (h : own_End p e below s Q K N (T.setTop (mkF m q Ls (.long (-x) :: rest))) E) : own_End p e below s Q K N (T.setTop (mkF m pc Ls (.long x :: rest))) E := by
  subst hq; exact own_back (fun _ k => XS.lneg X.here hx rfl hd rfl k) h
theorem own_i2l (X : Stand p l e R s' m args below meth c T locs cells slots) (hx : p.tables.exec = Jvm.exec) {pc q : Nat} {Ls : Array Slot} {rest : List Value} (hd : decode c.code pc = .ok (.i2l, 1)) {x : Int32} (hq : pc + 1 = q) (h : own_End p e below s Q K N (T.setTop (mkF m q Ls (.long (x.toInt64) :: rest))) E) : own_End p e below s Q K N (T.setTop (mkF m pc Ls (.int x :: rest))) E := by
  subst hq; exact own_back (fun _ k => XS.i2l X.here hx rfl hd rfl k) h
theorem own_l2i (X : Stand p l e R s' m args below meth c T locs cells slots) (hx : p.tables.exec = Jvm.exec) {pc q : Nat} {Ls : Array Slot} {rest : List Value} (hd : decode c.code pc = .ok (.l2i, 1)) {x : Int64} (hq : pc + 1 = q) (h : own_End p e below s Q K N (T.setTop (mkF m q Ls (.int (x.toInt32) :: rest))) E) : own_End p e below s Q K N (T.setTop (mkF m pc Ls (.long x :: rest))) E := by
  subst hq; exact own_back (fun _ k => XS.l2i X.here hx rfl hd rfl k) h
theorem own_i2c (X : Stand p l e R s' m args below meth c T locs cells slots) (hx : p.tables.exec = Jvm.exec) {pc q : Nat} {Ls : Array Slot} {rest : List Value} (hd : decode c.code pc = .ok (.i2c, 1)) {x : Int32} (hq : pc + 1 = q) (h : own_End p e below s Q K N (T.setTop (mkF m q Ls (.int (x.toUInt32.toUInt16.toUInt32.toInt32) :: rest))) E) : own_End p e below s Q K N (T.setTop (mkF m pc Ls (.int x :: rest))) E := by
  subst hq; exact own_back (fun _ k => XS.i2c X.here hx rfl hd rfl k) h
theorem own_i2b (X : Stand p l e R s' m args below meth c T locs cells slots) (hx : p.tables.exec = Jvm.exec) {pc q : Nat} {Ls : Array Slot} {rest : List Value} (hd : decode c.code pc = .ok (.i2b, 1)) {x : Int32} (hq : pc + 1 = q) (h : own_End p e below s Q K N (T.setTop (mkF m q Ls (.int (x.toInt8.toInt32) :: rest))) E) : own_End p e below s Q K N (T.setTop (mkF m pc Ls (.int x :: rest))) E := by
  subst hq; exact own_back (fun _ k => XS.i2b X.here hx rfl hd rfl k) h
theorem own_i2s (X : Stand p l e R s' m args below meth c T locs cells slots) (hx : p.tables.exec = Jvm.exec) {pc q : Nat} {Ls : Array Slot} {rest : List Value} (hd : decode c.code pc = .ok (.i2s, 1)) {x : Int32} (hq : pc + 1 = q) (h : own_End p e below s Q K N (T.setTop (mkF m q Ls (.int (x.toInt16.toInt32) :: rest))) E) : own_End p e below s Q K N (T.setTop (mkF m pc Ls (.int x :: rest))) E := by
  subst hq; exact own_back (fun _ k => XS.i2s X.here hx rfl hd rfl k) h
theorem own_lcmp (X : Stand p l e R s' m args below meth c T locs cells slots) (hx : p.tables.exec = Jvm.exec) {pc q : Nat} {Ls : Array Slot} {rest : List Value} (hd : decode c.code pc = .ok (.lcmp, 1)) {x y : Int64} (hq : pc + 1 = q) (h : own_End p e below s Q K N (T.setTop (mkF m q Ls (.int (lcmpW x y) :: rest))) E) : own_End p e below s Q K N (T.setTop (mkF m pc Ls (.long y :: .long x :: rest))) E := by
  subst hq; exact own_back (fun _ k => XS.lcmp X.here hx rfl hd rfl k) h
theorem own_dup (X : Stand p l e R s' m args below meth c T locs cells slots) (hx : p.tables.exec = Jvm.exec) {pc q : Nat} {Ls : Array Slot} {rest : List Value} (hd : decode c.code pc = .ok (.dup, 1)) {v : Value} (hv : v.category = 1) (hq : pc + 1 = q) (h : own_End p e below s Q K N (T.setTop (mkF m q Ls (v :: v :: rest))) E) : own_End p e below s Q K N (T.setTop (mkF m pc Ls (v :: rest))) E := by
  subst hq; exact own_back (fun _ k => XS.dup X.here hx rfl hd rfl hv k) h
theorem own_dupx1 (X : Stand p l e R s' m args below meth c T locs cells slots) (hx : p.tables.exec = Jvm.exec) {pc q : Nat} {Ls : Array Slot} {rest : List Value} (hd : decode c.code pc = .ok (.dup_x1, 1)) {v w : Value} (hv : v.category = 1) (hw : w.category = 1) (hq : pc + 1 = q) (h : own_End p e below s Q K N (T.setTop (mkF m q Ls (v :: w :: v :: rest))) E) : own_End p e below s Q K N (T.setTop (mkF m pc Ls (v :: w :: rest))) E := by
  subst hq; exact own_back (fun _ k => XS.dupX1 X.here hx rfl hd rfl hv hw k) h
theorem own_pop (X : Stand p l e R s' m args below meth c T locs cells slots) (hx : p.tables.exec = Jvm.exec) {pc q : Nat} {Ls : Array Slot} {rest : List Value} (hd : decode c.code pc = .ok (.pop, 1)) {v : Value} (hv : v.category = 1) (hq : pc + 1 = q) (h : own_End p e below s Q K N (T.setTop (mkF m q Ls (rest))) E) : own_End p e below s Q K N (T.setTop (mkF m pc Ls (v :: rest))) E := by
  subst hq; exact own_back (fun _ k => XS.pop X.here hx rfl hd rfl hv k) h
theorem own_anull (X : Stand p l e R s' m args below meth c T locs cells slots) (hx : p.tables.exec = Jvm.exec) {pc q : Nat} {Ls : Array Slot} {rest : List Value} (hd : decode c.code pc = .ok (.aconst_null, 1))  (hq : pc + 1 = q) (h : own_End p e below s Q K N (T.setTop (mkF m q Ls (.null :: rest))) E) : own_End p e below s Q K N (T.setTop (mkF m pc Ls (rest))) E := by
  subst hq; exact own_back (fun _ k => XS.aconstNull X.here hx rfl hd k) h
theorem own_iload (X : Stand p l e R s' m args below meth c T locs cells slots) (hx : p.tables.exec = Jvm.exec) {pc q : Nat} {Ls : Array Slot} {rest : List Value} {k : Nat} {v : Int32} (hd : decode c.code pc = .ok (.iload k, 2)) (hl : Ls[k]? = some (.val (.int v))) (hq : pc + 2 = q) (h : own_End p e below s Q K N (T.setTop (mkF m q Ls (.int v :: rest))) E) : own_End p e below s Q K N (T.setTop (mkF m pc Ls (rest))) E := by
  subst hq; exact own_back (fun _ k => XS.iload X.here hx rfl hd hl k) h
theorem own_iloadN (X : Stand p l e R s' m args below meth c T locs cells slots) (hx : p.tables.exec = Jvm.exec) {pc q : Nat} {Ls : Array Slot} {rest : List Value} {k : Fin 4} {v : Int32} (hd : decode c.code pc = .ok (.iload_n k, 1)) (hl : Ls[k.val]? = some (.val (.int v))) (hq : pc + 1 = q) (h : own_End p e below s Q K N (T.setTop (mkF m q Ls (.int v :: rest))) E) : own_End p e below s Q K N (T.setTop (mkF m pc Ls (rest))) E := by
  subst hq; exact own_back (fun _ k => XS.iloadN X.here hx rfl hd hl k) h
theorem own_istore (X : Stand p l e R s' m args below meth c T locs cells slots) (hx : p.tables.exec = Jvm.exec) {pc q : Nat} {Ls : Array Slot} {rest : List Value} {k : Nat} {v : Int32} {l' : Array Slot} (hd : decode c.code pc = .ok (.istore k, 2)) (hl : storeLocals Ls k (.int v) = some l') (hq : pc + 2 = q) (h : own_End p e below s Q K N (T.setTop (mkF m q l' (rest))) E) : own_End p e below s Q K N (T.setTop (mkF m pc Ls (.int v :: rest))) E := by
  subst hq; exact own_back (fun _ k => XS.istore X.here hx rfl hd rfl hl k) h
theorem own_istoreN (X : Stand p l e R s' m args below meth c T locs cells slots) (hx : p.tables.exec = Jvm.exec) {pc q : Nat} {Ls : Array Slot} {rest : List Value} {k : Fin 4} {v : Int32} {l' : Array Slot} (hd : decode c.code pc = .ok (.istore_n k, 1)) (hl : storeLocals Ls k.val (.int v) = some l') (hq : pc + 1 = q) (h : own_End p e below s Q K N (T.setTop (mkF m q l' (rest))) E) : own_End p e below s Q K N (T.setTop (mkF m pc Ls (.int v :: rest))) E := by
  subst hq; exact own_back (fun _ k => XS.istoreN X.here hx rfl hd rfl hl k) h
theorem own_lload (X : Stand p l e R s' m args below meth c T locs cells slots) (hx : p.tables.exec = Jvm.exec) {pc q : Nat} {Ls : Array Slot} {rest : List Value} {k : Nat} {v : Int64} (hd : decode c.code pc = .ok (.lload k, 2)) (hl : Ls[k]? = some (.val (.long v))) (hq : pc + 2 = q) (h : own_End p e below s Q K N (T.setTop (mkF m q Ls (.long v :: rest))) E) : own_End p e below s Q K N (T.setTop (mkF m pc Ls (rest))) E := by
  subst hq; exact own_back (fun _ k => XS.lload X.here hx rfl hd hl k) h
theorem own_lloadN (X : Stand p l e R s' m args below meth c T locs cells slots) (hx : p.tables.exec = Jvm.exec) {pc q : Nat} {Ls : Array Slot} {rest : List Value} {k : Fin 4} {v : Int64} (hd : decode c.code pc = .ok (.lload_n k, 1)) (hl : Ls[k.val]? = some (.val (.long v))) (hq : pc + 1 = q) (h : own_End p e below s Q K N (T.setTop (mkF m q Ls (.long v :: rest))) E) : own_End p e below s Q K N (T.setTop (mkF m pc Ls (rest))) E := by
  subst hq; exact own_back (fun _ k => XS.lloadN X.here hx rfl hd hl k) h
theorem own_lstore (X : Stand p l e R s' m args below meth c T locs cells slots) (hx : p.tables.exec = Jvm.exec) {pc q : Nat} {Ls : Array Slot} {rest : List Value} {k : Nat} {v : Int64} {l' : Array Slot} (hd : decode c.code pc = .ok (.lstore k, 2)) (hl : storeLocals Ls k (.long v) = some l') (hq : pc + 2 = q) (h : own_End p e below s Q K N (T.setTop (mkF m q l' (rest))) E) : own_End p e below s Q K N (T.setTop (mkF m pc Ls (.long v :: rest))) E := by
  subst hq; exact own_back (fun _ k => XS.lstore X.here hx rfl hd rfl hl k) h
theorem own_lstoreN (X : Stand p l e R s' m args below meth c T locs cells slots) (hx : p.tables.exec = Jvm.exec) {pc q : Nat} {Ls : Array Slot} {rest : List Value} {k : Fin 4} {v : Int64} {l' : Array Slot} (hd : decode c.code pc = .ok (.lstore_n k, 1)) (hl : storeLocals Ls k.val (.long v) = some l') (hq : pc + 1 = q) (h : own_End p e below s Q K N (T.setTop (mkF m q l' (rest))) E) : own_End p e below s Q K N (T.setTop (mkF m pc Ls (.long v :: rest))) E := by
  subst hq; exact own_back (fun _ k => XS.lstoreN X.here hx rfl hd rfl hl k) h
theorem own_aload (X : Stand p l e R s' m args below meth c T locs cells slots) (hx : p.tables.exec = Jvm.exec) {pc q : Nat} {Ls : Array Slot} {rest : List Value} {k : Nat} {v : Value} (hd : decode c.code pc = .ok (.aload k, 2)) (hl : Ls[k]? = some (.val v)) (hv : v.isRef = true) (hq : pc + 2 = q) (h : own_End p e below s Q K N (T.setTop (mkF m q Ls (v :: rest))) E) : own_End p e below s Q K N (T.setTop (mkF m pc Ls (rest))) E := by
  subst hq; exact own_back (fun _ k => XS.aload X.here hx rfl hd hl hv k) h
theorem own_aloadN (X : Stand p l e R s' m args below meth c T locs cells slots) (hx : p.tables.exec = Jvm.exec) {pc q : Nat} {Ls : Array Slot} {rest : List Value} {k : Fin 4} {v : Value} (hd : decode c.code pc = .ok (.aload_n k, 1)) (hl : Ls[k.val]? = some (.val v)) (hv : v.isRef = true) (hq : pc + 1 = q) (h : own_End p e below s Q K N (T.setTop (mkF m q Ls (v :: rest))) E) : own_End p e below s Q K N (T.setTop (mkF m pc Ls (rest))) E := by
  subst hq; exact own_back (fun _ k => XS.aloadN X.here hx rfl hd hl hv k) h
theorem own_astore (X : Stand p l e R s' m args below meth c T locs cells slots) (hx : p.tables.exec = Jvm.exec) {pc q : Nat} {Ls : Array Slot} {rest : List Value} {k : Nat} {v : Value} {l' : Array Slot} (hd : decode c.code pc = .ok (.astore k, 2)) (hv : v.isRef = true) (hl : storeLocals Ls k v = some l') (hq : pc + 2 = q) (h : own_End p e below s Q K N (T.setTop (mkF m q l' (rest))) E) : own_End p e below s Q K N (T.setTop (mkF m pc Ls (v :: rest))) E := by
  subst hq; exact own_back (fun _ k => XS.astore X.here hx rfl hd rfl hv hl k) h
theorem own_astoreN (X : Stand p l e R s' m args below meth c T locs cells slots) (hx : p.tables.exec = Jvm.exec) {pc q : Nat} {Ls : Array Slot} {rest : List Value} {k : Fin 4} {v : Value} {l' : Array Slot} (hd : decode c.code pc = .ok (.astore_n k, 1)) (hv : v.isRef = true) (hl : storeLocals Ls k.val v = some l') (hq : pc + 1 = q) (h : own_End p e below s Q K N (T.setTop (mkF m q l' (rest))) E) : own_End p e below s Q K N (T.setTop (mkF m pc Ls (v :: rest))) E := by
  subst hq; exact own_back (fun _ k => XS.astoreN X.here hx rfl hd rfl hv hl k) h
theorem own_iinc (X : Stand p l e R s' m args below meth c T locs cells slots) (hx : p.tables.exec = Jvm.exec) {pc q : Nat} {Ls : Array Slot} {rest : List Value} {k : Nat} {cst : Int} {x z : Int32} {l' : Array Slot} (hd : decode c.code pc = .ok (.iinc k cst, 3)) (hl : Ls[k]? = some (.val (.int x))) (hz : Int32.ofInt cst = z) (hl' : storeLocals Ls k (.int (x + z)) = some l') (hq : pc + 3 = q) (h : own_End p e below s Q K N (T.setTop (mkF m q l' (rest))) E) : own_End p e below s Q K N (T.setTop (mkF m pc Ls (rest))) E := by
  subst hq hz; exact own_back (fun _ k => XS.iinc X.here hx rfl hd hl hl' k) h
theorem own_iconst (X : Stand p l e R s' m args below meth c T locs cells slots) (hx : p.tables.exec = Jvm.exec) {pc q : Nat} {Ls : Array Slot} {rest : List Value} {i : Int} {z : Int32} (hd : decode c.code pc = .ok (.iconst i, 1)) (hz : Int32.ofInt i = z) (hq : pc + 1 = q) (h : own_End p e below s Q K N (T.setTop (mkF m q Ls (.int z :: rest))) E) : own_End p e below s Q K N (T.setTop (mkF m pc Ls (rest))) E := by
  subst hq hz; exact own_back (fun _ k => XS.iconst X.here hx rfl hd k) h
theorem own_bipush (X : Stand p l e R s' m args below meth c T locs cells slots) (hx : p.tables.exec = Jvm.exec) {pc q : Nat} {Ls : Array Slot} {rest : List Value} {i : Int} {z : Int32} (hd : decode c.code pc = .ok (.bipush i, 2)) (hz : (Int8.ofInt i).toInt32 = z) (hq : pc + 2 = q) (h : own_End p e below s Q K N (T.setTop (mkF m q Ls (.int z :: rest))) E) : own_End p e below s Q K N (T.setTop (mkF m pc Ls (rest))) E := by
  subst hq hz; exact own_back (fun _ k => XS.bipush X.here hx rfl hd k) h
theorem own_sipush (X : Stand p l e R s' m args below meth c T locs cells slots) (hx : p.tables.exec = Jvm.exec) {pc q : Nat} {Ls : Array Slot} {rest : List Value} {i : Int} {z : Int32} (hd : decode c.code pc = .ok (.sipush i, 3)) (hz : (Int16.ofInt i).toInt32 = z) (hq : pc + 3 = q) (h : own_End p e below s Q K N (T.setTop (mkF m q Ls (.int z :: rest))) E) : own_End p e below s Q K N (T.setTop (mkF m pc Ls (rest))) E := by
  subst hq hz; exact own_back (fun _ k => XS.sipush X.here hx rfl hd k) h
theorem own_lconst (X : Stand p l e R s' m args below meth c T locs cells slots) (hx : p.tables.exec = Jvm.exec) {pc q : Nat} {Ls : Array Slot} {rest : List Value} {i : Fin 2} {z : Int64} (hd : decode c.code pc = .ok (.lconst i, 1)) (hz : Int64.ofNat i = z) (hq : pc + 1 = q) (h : own_End p e below s Q K N (T.setTop (mkF m q Ls (.long z :: rest))) E) : own_End p e below s Q K N (T.setTop (mkF m pc Ls (rest))) E := by
  subst hq hz; exact own_back (fun _ k => XS.lconst X.here hx rfl hd k) h
theorem own_goto (X : Stand p l e R s' m args below meth c T locs cells slots) (hx : p.tables.exec = Jvm.exec) {pc q : Nat} {Ls : Array Slot} {rest : List Value} {o : Int} (hd : decode c.code pc = .ok (.goto o, 3)) (ho : 0 ≤ (pc : Int) + o) (hp : ((pc : Int) + o).toNat = q) (h : own_End p e below s Q K N (T.setTop (mkF m q Ls (rest))) E) : own_End p e below s Q K N (T.setTop (mkF m pc Ls (rest))) E := by
  exact own_back (fun _ k => XS.goto X.here hx rfl (pc0 := pc) (pc' := q) rfl hd ho hp k) h
theorem own_ifY (X : Stand p l e R s' m args below meth c T locs cells slots) (hx : p.tables.exec = Jvm.exec) {pc q : Nat} {Ls : Array Slot} {rest : List Value} {cd : ClassFile.Cond} {x : Int32} {o : Int} (hd : decode c.code pc = .ok (.ifCond cd o, 3)) (hc : if_icmp.holds cd x 0 = true) (ho : 0 ≤ (pc : Int) + o) (hp : ((pc : Int) + o).toNat = q) (h : own_End p e below s Q K N (T.setTop (mkF m q Ls (rest))) E) : own_End p e below s Q K N (T.setTop (mkF m pc Ls (.int x :: rest))) E := by
  exact own_back (fun _ k => XS.ifYes X.here hx rfl (pc0 := pc) (pc' := q) rfl hd rfl ((if0 _ _).trans hc) ho hp k) h
theorem own_ifN (X : Stand p l e R s' m args below meth c T locs cells slots) (hx : p.tables.exec = Jvm.exec) {pc q : Nat} {Ls : Array Slot} {rest : List Value} {cd : ClassFile.Cond} {x : Int32} {o : Int} (hd : decode c.code pc = .ok (.ifCond cd o, 3)) (hc : if_icmp.holds cd x 0 = false) (hq : pc + 3 = q) (h : own_End p e below s Q K N (T.setTop (mkF m q Ls (rest))) E) : own_End p e below s Q K N (T.setTop (mkF m pc Ls (.int x :: rest))) E := by
  subst hq; exact own_back (fun _ k => XS.ifNo X.here hx rfl hd rfl ((if0 _ _).trans hc) k) h
theorem own_icY (X : Stand p l e R s' m args below meth c T locs cells slots) (hx : p.tables.exec = Jvm.exec) {pc q : Nat} {Ls : Array Slot} {rest : List Value} {cd : ClassFile.Cond} {x y : Int32} {o : Int} (hd : decode c.code pc = .ok (.if_icmp cd o, 3)) (hc : if_icmp.holds cd x y = true) (ho : 0 ≤ (pc : Int) + o) (hp : ((pc : Int) + o).toNat = q) (h : own_End p e below s Q K N (T.setTop (mkF m q Ls (rest))) E) : own_End p e below s Q K N (T.setTop (mkF m pc Ls (.int y :: .int x :: rest))) E := by
  exact own_back (fun _ k => XS.icmpYes X.here hx rfl (pc0 := pc) (pc' := q) rfl hd rfl hc ho hp k) h
theorem own_icN (X : Stand p l e R s' m args below meth c T locs cells slots) (hx : p.tables.exec = Jvm.exec) {pc q : Nat} {Ls : Array Slot} {rest : List Value} {cd : ClassFile.Cond} {x y : Int32} {o : Int} (hd : decode c.code pc = .ok (.if_icmp cd o, 3)) (hc : if_icmp.holds cd x y = false) (hq : pc + 3 = q) (h : own_End p e below s Q K N (T.setTop (mkF m q Ls (rest))) E) : own_End p e below s Q K N (T.setTop (mkF m pc Ls (.int y :: .int x :: rest))) E := by
  subst hq; exact own_back (fun _ k => XS.icmpNo X.here hx rfl hd rfl hc k) h
theorem own_lcY (X : Stand p l e R s' m args below meth c T locs cells slots) (hx : p.tables.exec = Jvm.exec) {pc r q : Nat} {Ls : Array Slot} {rest : List Value} {cd : ClassFile.Cond} {x y : Int64} {o : Int} (hd : decode c.code pc = .ok (.lcmp, 1)) (hr : pc + 1 = r) (hd' : decode c.code r = .ok (.ifCond cd o, 3)) (hc : if_icmp.holds cd (lcmpW x y) 0 = true) (ho : 0 ≤ (r : Int) + o) (hp : ((r : Int) + o).toNat = q) (h : own_End p e below s Q K N (T.setTop (mkF m q Ls (rest))) E) : own_End p e below s Q K N (T.setTop (mkF m pc Ls (.long y :: .long x :: rest))) E := own_lcmp X hx hd hr (own_ifY X hx hd' hc ho hp h)
theorem own_lcN (X : Stand p l e R s' m args below meth c T locs cells slots) (hx : p.tables.exec = Jvm.exec) {pc r q : Nat} {Ls : Array Slot} {rest : List Value} {cd : ClassFile.Cond} {x y : Int64} {o : Int} (hd : decode c.code pc = .ok (.lcmp, 1)) (hr : pc + 1 = r) (hd' : decode c.code r = .ok (.ifCond cd o, 3)) (hc : if_icmp.holds cd (lcmpW x y) 0 = false) (hq : r + 3 = q) (h : own_End p e below s Q K N (T.setTop (mkF m q Ls (rest))) E) : own_End p e below s Q K N (T.setTop (mkF m pc Ls (.long y :: .long x :: rest))) E := own_lcmp X hx hd hr (own_ifN X hx hd' hc hq h)
theorem own_tlt {x y : Int64} (h : x < y) : if_icmp.holds .lt (lcmpW x y) 0 = true ∧ if_icmp.holds .ge (lcmpW x y) 0 = false ∧ if_icmp.holds .gt (lcmpW y x) 0 = true ∧ if_icmp.holds .le (lcmpW y x) 0 = false :=
  ⟨(tlt ((lw_lt x y).mpr h)).1, (tlt ((lw_lt x y).mpr h)).2.1, (tlt ((lw_gt y x).mpr h)).2.2.1, (tlt ((lw_gt y x).mpr h)).2.2.2⟩
theorem own_flt {x y : Int64} (h : ¬ x < y) : if_icmp.holds .lt (lcmpW x y) 0 = false ∧ if_icmp.holds .ge (lcmpW x y) 0 = true ∧ if_icmp.holds .gt (lcmpW y x) 0 = false ∧ if_icmp.holds .le (lcmpW y x) 0 = true :=
  ⟨(flt (fun q => h ((lw_lt x y).mp q))).1, (flt (fun q => h ((lw_lt x y).mp q))).2.1, (flt (fun q => h ((lw_gt y x).mp q))).2.2.1, (flt (fun q => h ((lw_gt y x).mp q))).2.2.2⟩
theorem own_teq {x y : Int64} (h : x = y) : if_icmp.holds .eq (lcmpW x y) 0 = true ∧ if_icmp.holds .ne (lcmpW x y) 0 = false := teq ((lw_eq x y).mpr h)
theorem own_feq {x y : Int64} (h : ¬ x = y) : if_icmp.holds .eq (lcmpW x y) 0 = false ∧ if_icmp.holds .ne (lcmpW x y) 0 = true := feq (fun q => h ((lw_eq x y).mp q))
theorem own_retV (X : Stand p l e R s m args below meth c T locs cells slots) (hx : p.tables.exec = Jvm.exec) {pc : Nat} {Ls : Array Slot}  (hret : meth.sig.returnType = none) (hlk : meth.locks = false) (hc : cells ≤ K) (hs : slots ≤ N) (hd : decode c.code pc = .ok (.return_, 1)) (hQ : Q none T.heap locs) : own_End p e below s Q K N (T.setTop (mkF m pc Ls [])) := by
  obtain ⟨fs, hr, hrun, hended, hW, hsame⟩ := X.leave (v := none) (fun _ => rfl) hlk
  refine ⟨_, _, ?_, hrun, hended, _, _, rfl, hQ, ⟨_, rfl⟩, hW, hsame.mono hc hs⟩
  exact X.returnOut hx hret hd hr
theorem own_retI (X : Stand p l e R s m args below meth c T locs cells slots) (hx : p.tables.exec = Jvm.exec) {pc : Nat} {Ls : Array Slot} {rest : List Value} {z : Int32} (hret : meth.sig.returnType = some .int) (hlk : meth.locks = false) (hc : cells ≤ K) (hs : slots ≤ N) (hd : decode c.code pc = .ok (.ireturn, 1)) (hQ : Q (some (.int z)) T.heap locs) : own_End p e below s Q K N (T.setTop (mkF m pc Ls (.int z :: rest))) := by
  obtain ⟨fs, hr, hrun, hended, hW, hsame⟩ := X.leave (v := (some (.int z))) (fun h => by rw [hret] at h; cases h) hlk
  refine ⟨_, _, ?_, hrun, hended, _, _, rfl, hQ, ⟨_, rfl⟩, hW, hsame.mono hc hs⟩
  have hm' : T.vm.method? m = some meth := X.method'
  have hn : narrow .int (.int z) = .int z := rfl
  show Steps p.tables e below (T.setTop { method := m, pc := pc, locals := Ls, stack := _ :: rest, locked := none }) _
  jvm_step X.here [X.here.top, hx, hd, hm', hret, hn]
  first | (intro acts; rw [hr _ acts rfl rfl rfl]) | rw [hr _ _ rfl rfl rfl]
  exact Steps.refl _
theorem own_retJ (X : Stand p l e R s m args below meth c T locs cells slots) (hx : p.tables.exec = Jvm.exec) {pc : Nat} {Ls : Array Slot} {rest : List Value} {z : Int64} (hret : meth.sig.returnType = some .long) (hlk : meth.locks = false) (hc : cells ≤ K) (hs : slots ≤ N) (hd : decode c.code pc = .ok (.lreturn, 1)) (hQ : Q (some (.long z)) T.heap locs) : own_End p e below s Q K N (T.setTop (mkF m pc Ls (.long z :: rest))) := by
  obtain ⟨fs, hr, hrun, hended, hW, hsame⟩ := X.leave (v := (some (.long z))) (fun h => by rw [hret] at h; cases h) hlk
  refine ⟨_, _, ?_, hrun, hended, _, _, rfl, hQ, ⟨_, rfl⟩, hW, hsame.mono hc hs⟩
  have hm' : T.vm.method? m = some meth := X.method'
  have hn : narrow .long (.long z) = .long z := rfl
  show Steps p.tables e below (T.setTop { method := m, pc := pc, locals := Ls, stack := _ :: rest, locked := none }) _
  jvm_step X.here [X.here.top, hx, hd, hm', hret, hn]
  first | (intro acts; rw [hr _ acts rfl rfl rfl]) | rw [hr _ _ rfl rfl rfl]
  exact Steps.refl _
theorem own_retN (X : Stand p l e R s m args below meth c T locs cells slots) (hx : p.tables.exec = Jvm.exec) {pc : Nat} {Ls : Array Slot} {rest : List Value} {z : Int32} {t : FieldType} (ht : t = .boolean ∨ t = .byte ∨ t = .char ∨ t = .short) (hret : meth.sig.returnType = some t) (hlk : meth.locks = false) (hc : cells ≤ K) (hs : slots ≤ N) (hd : decode c.code pc = .ok (.ireturn, 1)) (hQ : Q (some (.int (nar t z))) T.heap locs) : own_End p e below s Q K N (T.setTop (mkF m pc Ls (.int z :: rest))) := by
  obtain ⟨fs, hr, hrun, hended, hW, hsame⟩ := X.leave (v := (some (.int (nar t z)))) (fun h => by rw [hret] at h; cases h) hlk
  refine ⟨_, _, ?_, hrun, hended, _, _, rfl, hQ, ⟨_, rfl⟩, hW, hsame.mono hc hs⟩
  exact retN X hx hret ht hd hr
theorem own_b (P : Prop) [Decidable P] : nar .boolean (if P then (1 : Int32) else 0) = if P then (1 : Int32) else 0 := by
  split <;> rfl
end Own
section OwnW
variable {p : Program} {l : Launch} {e : Env} {R : Room} {s : State} {m : MethodId} {args : Array Value} {below : List Frame} {meth : Method} {c : Code} {T : State} {locs : List Loc} {cells slots : Nat} {Q : Option Value → Heap → List Loc → Prop} {K N : Nat} {Z : State} {h h' : Heap}
theorem own_since0 : s.Since s.vm 0 := ⟨State.Warmed39.refl s, fun j p h1 h2 => absurd (Array.getElem?_eq_some_iff.mp h2).1 (Nat.not_lt.mpr h1)⟩
theorem own_chv0 {vm : Vm} : CHv Z [] vm h := fun _ hp => by cases hp
theorem own_StaK {ws : List Addr} {C n d : String} {v : Value} (S : Sta Z h C n d v) (K : Keep h h' ws) (q : ∀ o ∈ ws, ∃ C', Exa Z h o C') : Sta Z h' C n d v := by
  obtain ⟨cf, i, k, f, st, cell, h1, h2, h3, h4, h5, h6, h7⟩ := S
  refine ⟨cf, i, k, f, st, cell, h1, h2, h3, h4, K.2.1 st cell h5 (fun hm => ?_), h6, h7⟩
  obtain ⟨C', cl, k', g1, -, -, g4, -⟩ := q st hm
  cases h5.symm.trans g1
  rw [g4] at h6; cases h6
theorem own_retNW {vm : Vm} {kk : Nat} (X : Stand p l e R (s.setVm vm) m args below meth c T locs cells slots) (hx : p.tables.exec = Jvm.exec) (hS : s.Since vm kk) (hk : kk ≤ T.heap.size) {pc : Nat} {Ls : Array Slot} {rest : List Value} {z : Int32} {t : FieldType} (ht : t = .boolean ∨ t = .byte ∨ t = .char ∨ t = .short) (hret : meth.sig.returnType = some t) (hlk : meth.locks = false) (hc : cells ≤ K) (hs : slots ≤ N) (hd : decode c.code pc = .ok (.ireturn, 1)) (hQ : Q (some (.int (nar t z))) T.heap locs) : own_End p e below s Q K N (T.setTop (mkF m pc Ls (.int z :: rest))) ReturnedEndW := by
  obtain ⟨fs, hr, hrun, hended, hE⟩ := Stand.leaveW X hS hk (v := some (.int (nar t z))) (fun h => by rw [hret] at h; cases h) hlk
  refine ⟨_, _, ?_, hrun, hended, _, _, rfl, hQ, hE.1, hE.2.1, hE.2.2.1, hE.2.2.2.mono hc hs⟩
  exact retN X hx hret ht hd hr
end OwnW
section OwnH
variable {p : Program} {l : Launch} {e : Env} {R : Room} {s : State} {m : MethodId} {args : Array Value} {below : List Frame} {meth : Method} {c : Code} {T : State} {locs : List Loc} {cells slots : Nat} {Q : Option Value → Heap → List Loc → Prop} {K N : Nat} {Z : State} {h h' h0 : Heap}
/-- the end of a callee that may intern: the tables at the end hold what they say -/
def own_EH (Z : State) : State → Outcome → State → List Loc → Nat → Nat → Prop := fun U o U' L K N => CHr Z consts_1 U.vm U.heap U'.vm U'.heap ∧ ReturnedEndW U o U' L K N
theorem own_sinceM {vm : Vm} {k n : Nat} (h : s.Since vm k) (q : k ≤ n) : s.Since vm n := ⟨h.1, fun j p h1 h2 => ⟨(h.2 j p h1 h2).1, Nat.lt_of_lt_of_le (h.2 j p h1 h2).2 q⟩⟩
theorem own_retNH {vm : Vm} {kk : Nat} {a0 : Array Value} (X : Stand p l e R (s.setVm vm) m args below meth c T locs cells slots) (hx : p.tables.exec = Jvm.exec) (hS : s.Since vm kk) (hk : kk ≤ h.size) (eT : T.heap = h) (hs0 : s.heap = h0) (hZ : Z.Warmed39 vm) (hEL : EW Z a0 consts_1) (hC : CHr Z consts_1 s.vm h0 vm h) {pc : Nat} {Ls : Array Slot} {rest : List Value} {z : Int32} {t : FieldType} (ht : t = .boolean ∨ t = .byte ∨ t = .char ∨ t = .short) (hret : meth.sig.returnType = some t) (hlk : meth.locks = false) (hc : cells ≤ K) (hs : slots ≤ N) (hd : decode c.code pc = .ok (.ireturn, 1)) (hQ : Q (some (.int (nar t z))) T.heap locs) : own_End p e below s Q K N (T.setTop (mkF m pc Ls (.int z :: rest))) (own_EH Z) := by
  obtain ⟨fs, hr, hrun, hended, hE⟩ := Stand.leaveW X hS (by rw [eT]; exact hk) (v := some (.int (nar t z))) (fun h => by rw [hret] at h; cases h) hlk
  refine ⟨_, _, ?_, hrun, hended, _, _, rfl, hQ, ?_, hE.1, hE.2.1, hE.2.2.1, hE.2.2.2.mono hc hs⟩
  · exact retN X hx hret ht hd hr
  · show CHr Z consts_1 s.vm s.heap T.vm T.heap
    rw [hs0, eT]; exact hC.trans (CHv.at X hZ hEL hC.1)
theorem own_shutH {vm0 : Vm} {EL : List (String × Nat)} {g : JFrame} {rest : List Value} {Q : Option Value → Heap → List Loc → Prop} {rc rs n0 : Nat} {val : Option Value} (N : Fr n0 locs) (hv : ∀ v h L, Q v h L → v = val ∧ Fr n0 L)
    (H : ∃ (v : Option Value) (vm₁ : Vm) (B : Pt), (s.setVm vm0).WarmedH vm₁ ∧ Stand p l e R ((s.setVm vm0).setVm B.U.vm) m args below meth c B.U B.locs B.cells B.slots ∧ (s.setVm vm0).Since B.U.vm B.U.heap.size ∧ T.heap.size ≤ B.U.heap.size ∧ (∃ L, Q v B.U.heap L ∧ B.locs = locs ++ L ∧ B.cells = cells + rc ∧ B.slots = slots + rs ∧ CHr Z EL vm0 h B.U.vm B.U.heap) ∧
      Steps p.tables e below (T.setTop g) (B.U.setTop { g with pc := g.pc + 3, stack := v.toList ++ rest })) :
    ∃ (T' : State) (L L' : List Loc), Stand p l e R ((s.setVm vm0).setVm T'.vm) m args below meth c T' L' (cells + rc) (slots + rs) ∧ Fr n0 L' ∧ Q val T'.heap L ∧ (s.setVm vm0).Since T'.vm T'.heap.size ∧ T.heap.size ≤ T'.heap.size ∧ CHr Z EL vm0 h T'.vm T'.heap ∧ Steps p.tables e below (T.setTop g) (T'.setTop { g with pc := g.pc + 3, stack := val.toList ++ rest }) := by
  obtain ⟨v, vm₁, ⟨T', L', k', n'⟩, -, X, hS, hg, ⟨L, q, l1, l2, l3, hC⟩, st⟩ := H
  subst l1 l2 l3
  obtain ⟨hv1, hv2⟩ := hv _ _ _ q
  cases hv1
  exact ⟨T', L, _, X, N.app hv2, q, hS, hg, hC, st⟩
end OwnH
theorem own_sat {Z : State} {a0 : Array Value} (hw : ∀ d ∈ tables_1, d.before a0 Z = true) : ∀ d ∈ Bundle.stringAtoms, d.before a0 Z = true := fun d hd => by
  simp only [Bundle.stringAtoms, List.mem_cons, List.not_mem_nil, or_false] at hd
  rcases hd with rfl | rfl | rfl | rfl | rfl | rfl | rfl
  · exact (hw _ (List.mem_of_getElem? (i := 11) rfl))
  · exact (hw _ (List.mem_of_getElem? (i := 12) rfl))
  · exact (hw _ (List.mem_of_getElem? (i := 13) rfl))
  · exact (hw _ (List.mem_of_getElem? (i := 14) rfl))
  · exact (hw _ (List.mem_of_getElem? (i := 15) rfl))
  · exact (hw _ (List.mem_of_getElem? (i := 16) rfl))
  · exact (hw _ (List.mem_of_getElem? (i := 17) rfl))
theorem own_EW {Z : State} {a0 : Array Value} (hw : ∀ d ∈ tables_1, d.before a0 Z = true) : EW Z a0 consts_1 :=
  (EW.cons (hw _ (List.mem_of_getElem? (i := 10) rfl)) (by decide) (EW.cons (hw _ (List.mem_of_getElem? (i := 19) rfl)) (by decide) (EW.cons (hw _ (List.mem_of_getElem? (i := 20) rfl)) (by decide) (EW.cons (hw _ (List.mem_of_getElem? (i := 21) rfl)) (by decide) (EW.cons (hw _ (List.mem_of_getElem? (i := 22) rfl)) (by decide) EW.nil)))))
def own_sel (j w0 w1 w2 w3 w4 w5 w6 w7 : Int32) : Int32 := [w0, w1, w2, w3, w4, w5, w6, w7].getD j.toNatClampNeg 0
theorem own_selAt (j w0 w1 w2 w3 w4 w5 w6 w7 : Int32) (h2 : j < 8) : [Value.int w0, .int w1, .int w2, .int w3, .int w4, .int w5, .int w6, .int w7].getD j.toNatClampNeg (.int 0) = .int (own_sel j w0 w1 w2 w3 w4 w5 w6 w7) := by
  rw [own_sel]
  have h : j.toNatClampNeg < 8 := by
    have e : j.toNatClampNeg = j.toInt.toNat := rfl
    rw [Int32.lt_iff_toInt_lt] at h2
    have : (8 : Int32).toInt = 8 := by decide
    omega
  generalize j.toNatClampNeg = n at h
  match n, h with
  | 0, _ => rfl
  | 1, _ => rfl
  | 2, _ => rfl
  | 3, _ => rfl
  | 4, _ => rfl
  | 5, _ => rfl
  | 6, _ => rfl
  | 7, _ => rfl
theorem own_d1_0 : decode prog_22_method_2_code 0 = .ok (.iload_n 0, 1) := by decide +kernel
theorem own_d1_1 : decode prog_22_method_2_code 1 = .ok (.bipush 65, 2) := by decide +kernel
theorem own_d1_3 : decode prog_22_method_2_code 3 = .ok (.if_icmp .lt 9, 3) := by decide +kernel
theorem own_d1_12 : decode prog_22_method_2_code 12 = .ok (.iload_n 0, 1) := by decide +kernel
theorem own_d1_13 : decode prog_22_method_2_code 13 = .ok (.bipush 48, 2) := by decide +kernel
theorem own_d1_15 : decode prog_22_method_2_code 15 = .ok (.if_icmp .lt 13, 3) := by decide +kernel
theorem own_d1_28 : decode prog_22_method_2_code 28 = .ok (.iconst 0, 1) := by decide +kernel
theorem own_d1_29 : decode prog_22_method_2_code 29 = .ok (.ireturn, 1) := by decide +kernel
theorem own_d1_18 : decode prog_22_method_2_code 18 = .ok (.iload_n 0, 1) := by decide +kernel
theorem own_d1_19 : decode prog_22_method_2_code 19 = .ok (.bipush 57, 2) := by decide +kernel
theorem own_d1_21 : decode prog_22_method_2_code 21 = .ok (.if_icmp .gt 7, 3) := by decide +kernel
theorem own_d1_24 : decode prog_22_method_2_code 24 = .ok (.iconst 1, 1) := by decide +kernel
theorem own_d1_25 : decode prog_22_method_2_code 25 = .ok (.goto 4, 3) := by decide +kernel
theorem own_d1_6 : decode prog_22_method_2_code 6 = .ok (.iload_n 0, 1) := by decide +kernel
theorem own_d1_7 : decode prog_22_method_2_code 7 = .ok (.bipush 90, 2) := by decide +kernel
theorem own_d1_9 : decode prog_22_method_2_code 9 = .ok (.if_icmp .le 15, 3) := by decide +kernel
def own_F1 (p0 : Int32) : Int32 := (if p0 < (65 : Int32) then (if p0 < (48 : Int32) then (0 : Int32) else (if (57 : Int32) < p0 then (0 : Int32) else (1 : Int32))) else (if (90 : Int32) < p0 then (if p0 < (48 : Int32) then (0 : Int32) else (if (57 : Int32) < p0 then (0 : Int32) else (1 : Int32))) else (1 : Int32)))
def own_Q1 (Z : State) (p0 : Int32) (h0 : Heap) (n0 : Nat) (v : Option Value) (h : Heap) (L : List Loc) : Prop := v = some (.int (own_F1 p0)) ∧ Fr n0 L ∧ h = h0
theorem own_pn_rm1 : plainName "com/example/renkei/renkei/codec/SegmentEnds" = true := by first | (simp [plainName, overriddenIn]; done) | decide +kernel
theorem own_ef_rm1 (m : MethodId) (p0 : Int32) : entryFrame m #[(.int p0)] 1 = mkF m 0 #[.val (.int p0)] [] := by first | (simp [entryFrame, mkF, argsToLocals, Value.category]; done) | rfl
set_option maxRecDepth 65536 in
set_option maxHeartbeats 40000000 in
theorem own_rm1 (l : Launch) (Z : State) (a0 : Array Value) (hw : ∀ d ∈ tables_1, d.before a0 Z = true) (ws : List Jvm.Cond) (p0 : Int32) (h0 : Heap) (n0 : Nat) (Z0 : n0 ≤ h0.size) :
    MetFree l (⟨"com/example/renkei/renkei/codec/SegmentEnds", "isIdUnit", "(I)Z"⟩ : MethodName) (head1 (Jvm.Cond.code (⟨"com/example/renkei/renkei/codec/SegmentEnds", "isIdUnit", "(I)Z"⟩ : MethodName) prog_22_method_2_code 1 (some .boolean) :: ws) ({ frames := 0, cells := 0, slots := 0, locals := 0 } : Room)) (fun a U => a = #[(.int p0)] ∧ Z.Warmed39 U.vm ∧ U.heap = h0) (fun _ _ _ _ _ => True) (fun _ U o U' => ∃ v L, o = .returned v ∧ own_Q1 Z p0 h0 n0 v U'.heap L ∧ FrameEnd U o U' L ({ frames := 0, cells := 0, slots := 0, locals := 0 } : Room).cells ({ frames := 0, cells := 0, slots := 0, locals := 0 } : Room).slots) := by
  refine MetFree.of_bodySF (plainFor_of_name own_pn_rm1) hisR ?_
  intro p e s m args below meth c s₁ Bd hml0 hP hK
  obtain ⟨rfl, hZ, hh⟩ := hP
  have hx := Bd.exec
  have hby := Bd.bytes
  have hml : c.maxLocals = 1 := hml0
  have hown : s.vm.findClass "com/example/renkei/renkei/codec/SegmentEnds" = some m.cls := findClass_of_methodNamed Bd.named
  have hnm := (name_of_methodNamed Bd.named Bd.method).1
  have X0 : Stand p l e ({ frames := 0, cells := 0, slots := 0, locals := 0 } : Room) s m #[(.int p0)] below meth c s₁ [] 0 0 := Stand.of_body Bd
  have e0 : s₁.heap = h0 := by rw [← hh, Bd.state]; rfl
  have N0 := Fr.nil n0
  show own_End p e below s (own_Q1 Z p0 h0 n0) ({ frames := 0, cells := 0, slots := 0, locals := 0 } : Room).cells ({ frames := 0, cells := 0, slots := 0, locals := 0 } : Room).slots (s₁.setTop (entryFrame m #[(.int p0)] 1))
  rw [own_ef_rm1]
  refine own_iloadN X0 hx (hb hby own_d1_0) rfl (q := 1) rfl ?_
  refine own_bipush X0 hx (hb hby own_d1_1) (z := 65) rfl (q := 3) rfl ?_
  by_cases hc3_1 : p0 < (65 : Int32)
  · refine own_icY X0 hx (hb hby own_d1_3) (tlt hc3_1).1 (q := 12) (by decide) (by decide) ?_
    refine own_iloadN X0 hx (hb hby own_d1_12) rfl (q := 13) rfl ?_
    refine own_bipush X0 hx (hb hby own_d1_13) (z := 48) rfl (q := 15) rfl ?_
    by_cases hc15_2 : p0 < (48 : Int32)
    · refine own_icY X0 hx (hb hby own_d1_15) (tlt hc15_2).1 (q := 28) (by decide) (by decide) ?_
      refine own_iconst X0 hx (hb hby own_d1_28) (z := 0) rfl (q := 29) rfl ?_
      refine own_retN X0 hx (t := .boolean) (by simp) Bd.returns Bd.notSynchronized (by decide) (by decide) (hb hby own_d1_29) ?_
      show own_Q1 Z p0 h0 n0 _ s₁.heap _
      exact ⟨(by rw [show own_F1 p0 = _ from (by simp only [own_F1, if_pos hc3_1, if_pos hc15_2] : _ = (0 : Int32))]; rfl), N0, e0⟩
    · refine own_icN X0 hx (hb hby own_d1_15) (flt hc15_2).1 (q := 18) rfl ?_
      refine own_iloadN X0 hx (hb hby own_d1_18) rfl (q := 19) rfl ?_
      refine own_bipush X0 hx (hb hby own_d1_19) (z := 57) rfl (q := 21) rfl ?_
      by_cases hc21_4 : (57 : Int32) < p0
      · refine own_icY X0 hx (hb hby own_d1_21) (tlt hc21_4).2.2.1 (q := 28) (by decide) (by decide) ?_
        refine own_iconst X0 hx (hb hby own_d1_28) (z := 0) rfl (q := 29) rfl ?_
        refine own_retN X0 hx (t := .boolean) (by simp) Bd.returns Bd.notSynchronized (by decide) (by decide) (hb hby own_d1_29) ?_
        show own_Q1 Z p0 h0 n0 _ s₁.heap _
        exact ⟨(by rw [show own_F1 p0 = _ from (by simp only [own_F1, if_pos hc3_1, if_neg hc15_2, if_pos hc21_4] : _ = (0 : Int32))]; rfl), N0, e0⟩
      · refine own_icN X0 hx (hb hby own_d1_21) (flt hc21_4).2.2.1 (q := 24) rfl ?_
        refine own_iconst X0 hx (hb hby own_d1_24) (z := 1) rfl (q := 25) rfl ?_
        refine own_goto X0 hx (hb hby own_d1_25) (q := 29) (by decide) (by decide) ?_
        refine own_retN X0 hx (t := .boolean) (by simp) Bd.returns Bd.notSynchronized (by decide) (by decide) (hb hby own_d1_29) ?_
        show own_Q1 Z p0 h0 n0 _ s₁.heap _
        exact ⟨(by rw [show own_F1 p0 = _ from (by simp only [own_F1, if_pos hc3_1, if_neg hc15_2, if_neg hc21_4] : _ = (1 : Int32))]; rfl), N0, e0⟩
  · refine own_icN X0 hx (hb hby own_d1_3) (flt hc3_1).1 (q := 6) rfl ?_
    refine own_iloadN X0 hx (hb hby own_d1_6) rfl (q := 7) rfl ?_
    refine own_bipush X0 hx (hb hby own_d1_7) (z := 90) rfl (q := 9) rfl ?_
    by_cases hc9_7 : (90 : Int32) < p0
    · refine own_icN X0 hx (hb hby own_d1_9) (tlt hc9_7).2.2.2 (q := 12) rfl ?_
      refine own_iloadN X0 hx (hb hby own_d1_12) rfl (q := 13) rfl ?_
      refine own_bipush X0 hx (hb hby own_d1_13) (z := 48) rfl (q := 15) rfl ?_
      by_cases hc15_8 : p0 < (48 : Int32)
      · refine own_icY X0 hx (hb hby own_d1_15) (tlt hc15_8).1 (q := 28) (by decide) (by decide) ?_
        refine own_iconst X0 hx (hb hby own_d1_28) (z := 0) rfl (q := 29) rfl ?_
        refine own_retN X0 hx (t := .boolean) (by simp) Bd.returns Bd.notSynchronized (by decide) (by decide) (hb hby own_d1_29) ?_
        show own_Q1 Z p0 h0 n0 _ s₁.heap _
        exact ⟨(by rw [show own_F1 p0 = _ from (by simp only [own_F1, if_neg hc3_1, if_pos hc9_7, if_pos hc15_8] : _ = (0 : Int32))]; rfl), N0, e0⟩
      · refine own_icN X0 hx (hb hby own_d1_15) (flt hc15_8).1 (q := 18) rfl ?_
        refine own_iloadN X0 hx (hb hby own_d1_18) rfl (q := 19) rfl ?_
        refine own_bipush X0 hx (hb hby own_d1_19) (z := 57) rfl (q := 21) rfl ?_
        by_cases hc21_10 : (57 : Int32) < p0
        · refine own_icY X0 hx (hb hby own_d1_21) (tlt hc21_10).2.2.1 (q := 28) (by decide) (by decide) ?_
          refine own_iconst X0 hx (hb hby own_d1_28) (z := 0) rfl (q := 29) rfl ?_
          refine own_retN X0 hx (t := .boolean) (by simp) Bd.returns Bd.notSynchronized (by decide) (by decide) (hb hby own_d1_29) ?_
          show own_Q1 Z p0 h0 n0 _ s₁.heap _
          exact ⟨(by rw [show own_F1 p0 = _ from (by simp only [own_F1, if_neg hc3_1, if_pos hc9_7, if_neg hc15_8, if_pos hc21_10] : _ = (0 : Int32))]; rfl), N0, e0⟩
        · refine own_icN X0 hx (hb hby own_d1_21) (flt hc21_10).2.2.1 (q := 24) rfl ?_
          refine own_iconst X0 hx (hb hby own_d1_24) (z := 1) rfl (q := 25) rfl ?_
          refine own_goto X0 hx (hb hby own_d1_25) (q := 29) (by decide) (by decide) ?_
          refine own_retN X0 hx (t := .boolean) (by simp) Bd.returns Bd.notSynchronized (by decide) (by decide) (hb hby own_d1_29) ?_
          show own_Q1 Z p0 h0 n0 _ s₁.heap _
          exact ⟨(by rw [show own_F1 p0 = _ from (by simp only [own_F1, if_neg hc3_1, if_pos hc9_7, if_neg hc15_8, if_neg hc21_10] : _ = (1 : Int32))]; rfl), N0, e0⟩
    · refine own_icY X0 hx (hb hby own_d1_9) (flt hc9_7).2.2.2 (q := 24) (by decide) (by decide) ?_
      refine own_iconst X0 hx (hb hby own_d1_24) (z := 1) rfl (q := 25) rfl ?_
      refine own_goto X0 hx (hb hby own_d1_25) (q := 29) (by decide) (by decide) ?_
      refine own_retN X0 hx (t := .boolean) (by simp) Bd.returns Bd.notSynchronized (by decide) (by decide) (hb hby own_d1_29) ?_
      show own_Q1 Z p0 h0 n0 _ s₁.heap _
      exact ⟨(by rw [show own_F1 p0 = _ from (by simp only [own_F1, if_neg hc3_1, if_neg hc9_7] : _ = (1 : Int32))]; rfl), N0, e0⟩
theorem own_d7_0 : decode jdk_41_method_11_code 0 = .ok (.iload_n 0, 1) := by decide +kernel
theorem own_d7_1 : decode jdk_41_method_11_code 1 = .ok (.ifCond .lt 8, 3) := by decide +kernel
theorem own_d7_4 : decode jdk_41_method_11_code 4 = .ok (.iload_n 0, 1) := by decide +kernel
theorem own_d7_5 : decode jdk_41_method_11_code 5 = .ok (.iload_n 1, 1) := by decide +kernel
theorem own_d7_6 : decode jdk_41_method_11_code 6 = .ok (.if_icmp .lt 10, 3) := by decide +kernel
theorem own_d7_16 : decode jdk_41_method_11_code 16 = .ok (.iload_n 0, 1) := by decide +kernel
theorem own_d7_17 : decode jdk_41_method_11_code 17 = .ok (.ireturn, 1) := by decide +kernel
def own_Q7_n (Z : State) (p0 : Int32) (p1 : Int32) (h0 : Heap) (n0 : Nat) (v : Option Value) (h : Heap) (L : List Loc) : Prop := v = some (.int p0) ∧ Fr n0 L ∧ h = h0
theorem own_pn_rm7_n : plainName "jdk/internal/util/Preconditions" = true := by first | (simp [plainName, overriddenIn]; done) | decide +kernel
theorem own_ef_rm7_n (m : MethodId) (p0 : Int32) (p1 : Int32) : entryFrame m #[(.int p0), (.int p1), .null] 3 = mkF m 0 #[.val (.int p0), .val (.int p1), .val .null] [] := by first | (simp [entryFrame, mkF, argsToLocals, Value.category]; done) | rfl
set_option maxRecDepth 65536 in
set_option maxHeartbeats 40000000 in
theorem own_rm7_n (l : Launch) (Z : State) (a0 : Array Value) (hw : ∀ d ∈ tables_1, d.before a0 Z = true) (ws : List Jvm.Cond) (p0 : Int32) (p1 : Int32) (h0 : Heap) (n0 : Nat) (Z0 : n0 ≤ h0.size) (h1 : ¬ (p0 < (0 : Int32))) (h2 : p0 < p1) :
    MetFree l (⟨"jdk/internal/util/Preconditions", "checkIndex", "(IILjava/util/function/BiFunction;)I"⟩ : MethodName) (head1 (Jvm.Cond.code (⟨"jdk/internal/util/Preconditions", "checkIndex", "(IILjava/util/function/BiFunction;)I"⟩ : MethodName) jdk_41_method_11_code 3 (some .int) :: ws) ({ frames := 0, cells := 0, slots := 0, locals := 0 } : Room)) (fun a U => a = #[(.int p0), (.int p1), .null] ∧ Z.Warmed39 U.vm ∧ U.heap = h0) (fun _ _ _ _ _ => True) (fun _ U o U' => ∃ v L, o = .returned v ∧ own_Q7_n Z p0 p1 h0 n0 v U'.heap L ∧ FrameEnd U o U' L ({ frames := 0, cells := 0, slots := 0, locals := 0 } : Room).cells ({ frames := 0, cells := 0, slots := 0, locals := 0 } : Room).slots) := by
  refine MetFree.of_bodySF (plainFor_of_name own_pn_rm7_n) hisR ?_
  intro p e s m args below meth c s₁ Bd hml0 hP hK
  obtain ⟨rfl, hZ, hh⟩ := hP
  have hx := Bd.exec
  have hby := Bd.bytes
  have hml : c.maxLocals = 3 := hml0
  have hown : s.vm.findClass "jdk/internal/util/Preconditions" = some m.cls := findClass_of_methodNamed Bd.named
  have hnm := (name_of_methodNamed Bd.named Bd.method).1
  have X0 : Stand p l e ({ frames := 0, cells := 0, slots := 0, locals := 0 } : Room) s m #[(.int p0), (.int p1), .null] below meth c s₁ [] 0 0 := Stand.of_body Bd
  have e0 : s₁.heap = h0 := by rw [← hh, Bd.state]; rfl
  have N0 := Fr.nil n0
  show own_End p e below s (own_Q7_n Z p0 p1 h0 n0) ({ frames := 0, cells := 0, slots := 0, locals := 0 } : Room).cells ({ frames := 0, cells := 0, slots := 0, locals := 0 } : Room).slots (s₁.setTop (entryFrame m #[(.int p0), (.int p1), .null] 3))
  rw [own_ef_rm7_n]
  refine own_iloadN X0 hx (hb hby own_d7_0) rfl (q := 1) rfl ?_
  have hk14 : ¬ (p0 < (0 : Int32)) := h1
  refine own_ifN X0 hx (hb hby own_d7_1) (flt hk14).1 (q := 4) rfl ?_
  refine own_iloadN X0 hx (hb hby own_d7_4) rfl (q := 5) rfl ?_
  refine own_iloadN X0 hx (hb hby own_d7_5) rfl (q := 6) rfl ?_
  have hk15 : p0 < p1 := h2
  refine own_icY X0 hx (hb hby own_d7_6) (tlt hk15).1 (q := 16) (by decide) (by decide) ?_
  refine own_iloadN X0 hx (hb hby own_d7_16) rfl (q := 17) rfl ?_
  refine own_retI X0 hx Bd.returns Bd.notSynchronized (by decide) (by decide) (hb hby own_d7_17) ?_
  show own_Q7_n Z p0 p1 h0 n0 _ s₁.heap _
  exact ⟨rfl, N0, e0⟩
def own_Q7_r (Z : State) (p0 : Int32) (p1 : Int32) (o2 : Addr) (h0 : Heap) (n0 : Nat) (v : Option Value) (h : Heap) (L : List Loc) : Prop := v = some (.int p0) ∧ Fr n0 L ∧ h = h0
theorem own_pn_rm7_r : plainName "jdk/internal/util/Preconditions" = true := by first | (simp [plainName, overriddenIn]; done) | decide +kernel
theorem own_ef_rm7_r (m : MethodId) (p0 : Int32) (p1 : Int32) (o2 : Addr) : entryFrame m #[(.int p0), (.int p1), (.ref o2)] 3 = mkF m 0 #[.val (.int p0), .val (.int p1), .val (.ref o2)] [] := by first | (simp [entryFrame, mkF, argsToLocals, Value.category]; done) | rfl
set_option maxRecDepth 65536 in
set_option maxHeartbeats 40000000 in
theorem own_rm7_r (l : Launch) (Z : State) (a0 : Array Value) (hw : ∀ d ∈ tables_1, d.before a0 Z = true) (ws : List Jvm.Cond) (p0 : Int32) (p1 : Int32) (o2 : Addr) (h0 : Heap) (n0 : Nat) (Z0 : n0 ≤ h0.size) (h1 : ¬ (p0 < (0 : Int32))) (h2 : p0 < p1) :
    MetFree l (⟨"jdk/internal/util/Preconditions", "checkIndex", "(IILjava/util/function/BiFunction;)I"⟩ : MethodName) (head1 (Jvm.Cond.code (⟨"jdk/internal/util/Preconditions", "checkIndex", "(IILjava/util/function/BiFunction;)I"⟩ : MethodName) jdk_41_method_11_code 3 (some .int) :: ws) ({ frames := 0, cells := 0, slots := 0, locals := 0 } : Room)) (fun a U => a = #[(.int p0), (.int p1), (.ref o2)] ∧ Z.Warmed39 U.vm ∧ U.heap = h0) (fun _ _ _ _ _ => True) (fun _ U o U' => ∃ v L, o = .returned v ∧ own_Q7_r Z p0 p1 o2 h0 n0 v U'.heap L ∧ FrameEnd U o U' L ({ frames := 0, cells := 0, slots := 0, locals := 0 } : Room).cells ({ frames := 0, cells := 0, slots := 0, locals := 0 } : Room).slots) := by
  refine MetFree.of_bodySF (plainFor_of_name own_pn_rm7_r) hisR ?_
  intro p e s m args below meth c s₁ Bd hml0 hP hK
  obtain ⟨rfl, hZ, hh⟩ := hP
  have hx := Bd.exec
  have hby := Bd.bytes
  have hml : c.maxLocals = 3 := hml0
  have hown : s.vm.findClass "jdk/internal/util/Preconditions" = some m.cls := findClass_of_methodNamed Bd.named
  have hnm := (name_of_methodNamed Bd.named Bd.method).1
  have X0 : Stand p l e ({ frames := 0, cells := 0, slots := 0, locals := 0 } : Room) s m #[(.int p0), (.int p1), (.ref o2)] below meth c s₁ [] 0 0 := Stand.of_body Bd
  have e0 : s₁.heap = h0 := by rw [← hh, Bd.state]; rfl
  have N0 := Fr.nil n0
  show own_End p e below s (own_Q7_r Z p0 p1 o2 h0 n0) ({ frames := 0, cells := 0, slots := 0, locals := 0 } : Room).cells ({ frames := 0, cells := 0, slots := 0, locals := 0 } : Room).slots (s₁.setTop (entryFrame m #[(.int p0), (.int p1), (.ref o2)] 3))
  rw [own_ef_rm7_r]
  refine own_iloadN X0 hx (hb hby own_d7_0) rfl (q := 1) rfl ?_
  have hk17 : ¬ (p0 < (0 : Int32)) := h1
  refine own_ifN X0 hx (hb hby own_d7_1) (flt hk17).1 (q := 4) rfl ?_
  refine own_iloadN X0 hx (hb hby own_d7_4) rfl (q := 5) rfl ?_
  refine own_iloadN X0 hx (hb hby own_d7_5) rfl (q := 6) rfl ?_
  have hk18 : p0 < p1 := h2
  refine own_icY X0 hx (hb hby own_d7_6) (tlt hk18).1 (q := 16) (by decide) (by decide) ?_
  refine own_iloadN X0 hx (hb hby own_d7_16) rfl (q := 17) rfl ?_
  refine own_retI X0 hx Bd.returns Bd.notSynchronized (by decide) (by decide) (hb hby own_d7_17) ?_
  show own_Q7_r Z p0 p1 o2 h0 n0 _ s₁.heap _
  exact ⟨rfl, N0, e0⟩
theorem own_d6_0 : decode jdk_42_method_155_code 0 = .ok (.iload_n 0, 1) := by decide +kernel
theorem own_d6_1 : decode jdk_42_method_155_code 1 = .ok (.iload_n 1, 1) := by decide +kernel
theorem own_d6_2 : decode jdk_42_method_155_code 2 = .ok (.getstatic 1053, 3) := by decide +kernel
theorem own_d6_5 : decode jdk_42_method_155_code 5 = .ok (.invokestatic 1059, 3) := by decide +kernel
theorem own_pd0 : parseMethodDescriptor "(IILjava/util/function/BiFunction;)I" = some ⟨[.int, .int, (.object "java/util/function/BiFunction")], some .int⟩ := by decide +kernel
theorem own_d6_8 : decode jdk_42_method_155_code 8 = .ok (.pop, 1) := by decide +kernel
theorem own_d6_9 : decode jdk_42_method_155_code 9 = .ok (.return_, 1) := by decide +kernel
def own_Q6_n (Z : State) (p0 : Int32) (p1 : Int32) (h0 : Heap) (n0 : Nat) (v : Option Value) (h : Heap) (L : List Loc) : Prop := v = none ∧ Fr n0 L ∧ h = h0
theorem own_pn_rm6_n : plainName "java/lang/String" = true := by first | (simp [plainName, overriddenIn]; done) | decide +kernel
theorem own_ef_rm6_n (m : MethodId) (p0 : Int32) (p1 : Int32) : entryFrame m #[(.int p0), (.int p1)] 2 = mkF m 0 #[.val (.int p0), .val (.int p1)] [] := by first | (simp [entryFrame, mkF, argsToLocals, Value.category]; done) | rfl
set_option maxRecDepth 65536 in
set_option maxHeartbeats 40000000 in
theorem own_rm6_n (l : Launch) (Z : State) (a0 : Array Value) (hw : ∀ d ∈ tables_1, d.before a0 Z = true) (ws : List Jvm.Cond) (p0 : Int32) (p1 : Int32) (h0 : Heap) (n0 : Nat) (Z0 : n0 ≤ h0.size) (S_f : Sta Z h0 "jdk/internal/util/Preconditions" "SIOOBE_FORMATTER" "Ljava/util/function/BiFunction;" .null) (h1 : ¬ (p0 < (0 : Int32))) (h2 : p0 < p1) :
    MetFree l (⟨"java/lang/String", "checkIndex", "(II)V"⟩ : MethodName) (head1 (Jvm.Cond.code (⟨"java/lang/String", "checkIndex", "(II)V"⟩ : MethodName) jdk_42_method_155_code 2 none :: ws) ({ frames := 1, cells := 0, slots := 0, locals := 14 } : Room)) (fun a U => a = #[(.int p0), (.int p1)] ∧ Z.Warmed39 U.vm ∧ U.heap = h0) (fun _ _ _ _ _ => True) (fun _ U o U' => ∃ v L, o = .returned v ∧ own_Q6_n Z p0 p1 h0 n0 v U'.heap L ∧ FrameEnd U o U' L ({ frames := 1, cells := 0, slots := 0, locals := 14 } : Room).cells ({ frames := 1, cells := 0, slots := 0, locals := 14 } : Room).slots) := by
  refine MetFree.of_bodySF (plainFor_of_name own_pn_rm6_n) hisR ?_
  intro p e s m args below meth c s₁ Bd hml0 hP hK
  obtain ⟨rfl, hZ, hh⟩ := hP
  have hx := Bd.exec
  have hby := Bd.bytes
  have hml : c.maxLocals = 2 := hml0
  have hown : s.vm.findClass "java/lang/String" = some m.cls := findClass_of_methodNamed Bd.named
  have hnm := (name_of_methodNamed Bd.named Bd.method).1
  have X0 : Stand p l e ({ frames := 1, cells := 0, slots := 0, locals := 14 } : Room) s m #[(.int p0), (.int p1)] below meth c s₁ [] 0 0 := Stand.of_body Bd
  have e0 : s₁.heap = h0 := by rw [← hh, Bd.state]; rfl
  have N0 := Fr.nil n0
  show own_End p e below s (own_Q6_n Z p0 p1 h0 n0) ({ frames := 1, cells := 0, slots := 0, locals := 14 } : Room).cells ({ frames := 1, cells := 0, slots := 0, locals := 14 } : Room).slots (s₁.setTop (entryFrame m #[(.int p0), (.int p1)] 2))
  rw [own_ef_rm6_n]
  refine own_iloadN X0 hx (hb hby own_d6_0) rfl (q := 1) rfl ?_
  refine own_iloadN X0 hx (hb hby own_d6_1) rfl (q := 2) rfl ?_
  obtain ⟨T20, X20, e20, st20⟩ := getS2 X0 hx hZ hown (host := "") (Or.inl (hw _ (List.mem_of_getElem? (i := 43) rfl))) Via.refl e0 S_f (g := (mkF m 2 #[.val (.int p0), .val (.int p1)] [(.int p1), (.int p0)])) rfl (hb hby own_d6_2)
  refine own_back st20 ?_
  show own_End p e below s _ _ _ (T20.setTop (mkF m 5 #[.val (.int p0), .val (.int p1)] [.null, (.int p1), (.int p0)]))
  obtain ⟨T21, Lc21, L21, X21, N21, hQ21, st21⟩ := own_shutS (val := some (.int p0)) (Q := own_Q7_n Z p0 p1 h0 n0) (rc := 0) (rs := 0) N0 (fun _ _ _ q => ⟨q.1, q.2.1⟩) (Jvm.LawKit.callS X20 hx (y := (⟨"jdk/internal/util/Preconditions", "checkIndex", "(IILjava/util/function/BiFunction;)I"⟩ : MethodName)) hown (mvT hZ (hw _ (List.mem_of_getElem? (i := 45) rfl))) (mvT hZ (hw _ (List.mem_of_getElem? (i := 46) rfl))) (mvT hZ (hw _ (List.mem_of_getElem? (i := 44) rfl))) (mvT hZ (hw _ (List.mem_of_getElem? (i := 47) rfl))) (by decide) (backOf (W := 0) (own_rm7_n l Z a0 hw [] p0 p1 h0 n0 Z0 (by assumption : ¬ (p0 < (0 : Int32))) (by assumption : p0 < p1)) hZ (hw _ (List.mem_of_getElem? (i := 47) rfl)) (hw _ (List.mem_of_getElem? (i := 44) rfl)) (by decide) (by decide)) (g := (mkF m 5 #[.val (.int p0), .val (.int p1)] [.null, (.int p1), (.int p0)])) rfl (by rw [hml]; rfl) (argsL := [(.int p0), (.int p1), .null]) (rest := []) (lenOf own_pd0 rfl) rfl (by show 2 * 0 + _ ≤ _; exact Nat.le_of_eq rfl) (hb hby own_d6_5) (fun _ _ => ⟨rfl, e20, (by decide : 0 + 0 ≤ _), (by decide : 0 + 0 ≤ _)⟩))
  obtain ⟨-, -, e21⟩ := hQ21
  refine own_back st21 ?_
  show own_End p e below s _ _ _ (T21.setTop (mkF m 8 #[.val (.int p0), .val (.int p1)] [(.int p0)]))
  refine own_pop X21 hx (hb hby own_d6_8) rfl (q := 9) rfl ?_
  refine own_retV X21 hx Bd.returns Bd.notSynchronized (by decide) (by decide) (hb hby own_d6_9) ?_
  show own_Q6_n Z p0 p1 h0 n0 _ T21.heap _
  exact ⟨rfl, N21, e21⟩
def own_Q6_r (Z : State) (p0 : Int32) (p1 : Int32) (sb : Addr) (h0 : Heap) (n0 : Nat) (v : Option Value) (h : Heap) (L : List Loc) : Prop := v = none ∧ Fr n0 L ∧ h = h0
theorem own_pn_rm6_r : plainName "java/lang/String" = true := by first | (simp [plainName, overriddenIn]; done) | decide +kernel
theorem own_ef_rm6_r (m : MethodId) (p0 : Int32) (p1 : Int32) : entryFrame m #[(.int p0), (.int p1)] 2 = mkF m 0 #[.val (.int p0), .val (.int p1)] [] := by first | (simp [entryFrame, mkF, argsToLocals, Value.category]; done) | rfl
set_option maxRecDepth 65536 in
set_option maxHeartbeats 40000000 in
theorem own_rm6_r (l : Launch) (Z : State) (a0 : Array Value) (hw : ∀ d ∈ tables_1, d.before a0 Z = true) (ws : List Jvm.Cond) (p0 : Int32) (p1 : Int32) (sb : Addr) (h0 : Heap) (n0 : Nat) (Z0 : n0 ≤ h0.size) (S_f : Sta Z h0 "jdk/internal/util/Preconditions" "SIOOBE_FORMATTER" "Ljava/util/function/BiFunction;" (.ref sb)) (h1 : ¬ (p0 < (0 : Int32))) (h2 : p0 < p1) :
    MetFree l (⟨"java/lang/String", "checkIndex", "(II)V"⟩ : MethodName) (head1 (Jvm.Cond.code (⟨"java/lang/String", "checkIndex", "(II)V"⟩ : MethodName) jdk_42_method_155_code 2 none :: ws) ({ frames := 1, cells := 0, slots := 0, locals := 14 } : Room)) (fun a U => a = #[(.int p0), (.int p1)] ∧ Z.Warmed39 U.vm ∧ U.heap = h0) (fun _ _ _ _ _ => True) (fun _ U o U' => ∃ v L, o = .returned v ∧ own_Q6_r Z p0 p1 sb h0 n0 v U'.heap L ∧ FrameEnd U o U' L ({ frames := 1, cells := 0, slots := 0, locals := 14 } : Room).cells ({ frames := 1, cells := 0, slots := 0, locals := 14 } : Room).slots) := by
  refine MetFree.of_bodySF (plainFor_of_name own_pn_rm6_r) hisR ?_
  intro p e s m args below meth c s₁ Bd hml0 hP hK
  obtain ⟨rfl, hZ, hh⟩ := hP
  have hx := Bd.exec
  have hby := Bd.bytes
  have hml : c.maxLocals = 2 := hml0
  have hown : s.vm.findClass "java/lang/String" = some m.cls := findClass_of_methodNamed Bd.named
  have hnm := (name_of_methodNamed Bd.named Bd.method).1
  have X0 : Stand p l e ({ frames := 1, cells := 0, slots := 0, locals := 14 } : Room) s m #[(.int p0), (.int p1)] below meth c s₁ [] 0 0 := Stand.of_body Bd
  have e0 : s₁.heap = h0 := by rw [← hh, Bd.state]; rfl
  have N0 := Fr.nil n0
  show own_End p e below s (own_Q6_r Z p0 p1 sb h0 n0) ({ frames := 1, cells := 0, slots := 0, locals := 14 } : Room).cells ({ frames := 1, cells := 0, slots := 0, locals := 14 } : Room).slots (s₁.setTop (entryFrame m #[(.int p0), (.int p1)] 2))
  rw [own_ef_rm6_r]
  refine own_iloadN X0 hx (hb hby own_d6_0) rfl (q := 1) rfl ?_
  refine own_iloadN X0 hx (hb hby own_d6_1) rfl (q := 2) rfl ?_
  obtain ⟨T23, X23, e23, st23⟩ := getS2 X0 hx hZ hown (host := "") (Or.inl (hw _ (List.mem_of_getElem? (i := 43) rfl))) Via.refl e0 S_f (g := (mkF m 2 #[.val (.int p0), .val (.int p1)] [(.int p1), (.int p0)])) rfl (hb hby own_d6_2)
  refine own_back st23 ?_
  show own_End p e below s _ _ _ (T23.setTop (mkF m 5 #[.val (.int p0), .val (.int p1)] [(.ref sb), (.int p1), (.int p0)]))
  obtain ⟨T24, Lc24, L24, X24, N24, hQ24, st24⟩ := own_shutS (val := some (.int p0)) (Q := own_Q7_r Z p0 p1 sb h0 n0) (rc := 0) (rs := 0) N0 (fun _ _ _ q => ⟨q.1, q.2.1⟩) (Jvm.LawKit.callS X23 hx (y := (⟨"jdk/internal/util/Preconditions", "checkIndex", "(IILjava/util/function/BiFunction;)I"⟩ : MethodName)) hown (mvT hZ (hw _ (List.mem_of_getElem? (i := 45) rfl))) (mvT hZ (hw _ (List.mem_of_getElem? (i := 46) rfl))) (mvT hZ (hw _ (List.mem_of_getElem? (i := 44) rfl))) (mvT hZ (hw _ (List.mem_of_getElem? (i := 47) rfl))) (by decide) (backOf (W := 0) (own_rm7_r l Z a0 hw [] p0 p1 sb h0 n0 Z0 (by assumption : ¬ (p0 < (0 : Int32))) (by assumption : p0 < p1)) hZ (hw _ (List.mem_of_getElem? (i := 47) rfl)) (hw _ (List.mem_of_getElem? (i := 44) rfl)) (by decide) (by decide)) (g := (mkF m 5 #[.val (.int p0), .val (.int p1)] [(.ref sb), (.int p1), (.int p0)])) rfl (by rw [hml]; rfl) (argsL := [(.int p0), (.int p1), (.ref sb)]) (rest := []) (lenOf own_pd0 rfl) rfl (by show 2 * 0 + _ ≤ _; exact Nat.le_of_eq rfl) (hb hby own_d6_5) (fun _ _ => ⟨rfl, e23, (by decide : 0 + 0 ≤ _), (by decide : 0 + 0 ≤ _)⟩))
  obtain ⟨-, -, e24⟩ := hQ24
  refine own_back st24 ?_
  show own_End p e below s _ _ _ (T24.setTop (mkF m 8 #[.val (.int p0), .val (.int p1)] [(.int p0)]))
  refine own_pop X24 hx (hb hby own_d6_8) rfl (q := 9) rfl ?_
  refine own_retV X24 hx Bd.returns Bd.notSynchronized (by decide) (by decide) (hb hby own_d6_9) ?_
  show own_Q6_r Z p0 p1 sb h0 n0 _ T24.heap _
  exact ⟨rfl, N24, e24⟩
def own_Q6 (Z : State) (p0 : Int32) (p1 : Int32) (sb : Value) (h0 : Heap) (n0 : Nat) (v : Option Value) (h : Heap) (L : List Loc) : Prop := v = none ∧ Fr n0 L ∧ h = h0
theorem own_rm6 (l : Launch) (Z : State) (a0 : Array Value) (hw : ∀ d ∈ tables_1, d.before a0 Z = true) (ws : List Jvm.Cond) (p0 : Int32) (p1 : Int32) (sb : Value) (h0 : Heap) (n0 : Nat) (Z0 : n0 ≤ h0.size) (S_f : Sta Z h0 "jdk/internal/util/Preconditions" "SIOOBE_FORMATTER" "Ljava/util/function/BiFunction;" sb) (h1 : ¬ (p0 < (0 : Int32))) (h2 : p0 < p1) (hsb : sb = .null ∨ ∃ x, sb = .ref x) :
    MetFree l (⟨"java/lang/String", "checkIndex", "(II)V"⟩ : MethodName) (head1 (Jvm.Cond.code (⟨"java/lang/String", "checkIndex", "(II)V"⟩ : MethodName) jdk_42_method_155_code 2 none :: ws) ({ frames := 1, cells := 0, slots := 0, locals := 14 } : Room)) (fun a U => a = #[(.int p0), (.int p1)] ∧ Z.Warmed39 U.vm ∧ U.heap = h0) (fun _ _ _ _ _ => True) (fun _ U o U' => ∃ v L, o = .returned v ∧ own_Q6 Z p0 p1 sb h0 n0 v U'.heap L ∧ FrameEnd U o U' L ({ frames := 1, cells := 0, slots := 0, locals := 14 } : Room).cells ({ frames := 1, cells := 0, slots := 0, locals := 14 } : Room).slots) := by
  rcases hsb with rfl | ⟨x, rfl⟩
  · exact own_rm6_n l Z a0 hw ws p0 p1 h0 n0 Z0 S_f h1 h2
  · exact own_rm6_r l Z a0 hw ws p0 p1 x h0 n0 Z0 S_f h1 h2
theorem own_d5_0 : decode jdk_43_method_2_code 0 = .ok (.iload_n 1, 1) := by decide +kernel
theorem own_d5_1 : decode jdk_43_method_2_code 1 = .ok (.aload_n 0, 1) := by decide +kernel
theorem own_d5_2 : decode jdk_43_method_2_code 2 = .ok (.arraylength, 1) := by decide +kernel
theorem own_d5_3 : decode jdk_43_method_2_code 3 = .ok (.invokestatic 9, 3) := by decide +kernel
theorem own_pd1 : parseMethodDescriptor "(II)V" = some ⟨[.int, .int], none⟩ := by decide +kernel
theorem own_d5_6 : decode jdk_43_method_2_code 6 = .ok (.aload_n 0, 1) := by decide +kernel
theorem own_d5_7 : decode jdk_43_method_2_code 7 = .ok (.iload_n 1, 1) := by decide +kernel
theorem own_d5_8 : decode jdk_43_method_2_code 8 = .ok (.baload, 1) := by decide +kernel
theorem own_d5_9 : decode jdk_43_method_2_code 9 = .ok (.sipush 255, 3) := by decide +kernel
theorem own_d5_12 : decode jdk_43_method_2_code 12 = .ok (.iand, 1) := by decide +kernel
theorem own_d5_13 : decode jdk_43_method_2_code 13 = .ok (.i2c, 1) := by decide +kernel
theorem own_d5_14 : decode jdk_43_method_2_code 14 = .ok (.ireturn, 1) := by decide +kernel
def own_Q5 (Z : State) (o0 : Addr) (p1 : Int32) (k_o0 : ClassId) (w_o0_0 : Int32) (w_o0_1 : Int32) (w_o0_2 : Int32) (w_o0_3 : Int32) (w_o0_4 : Int32) (w_o0_5 : Int32) (w_o0_6 : Int32) (w_o0_7 : Int32) (sb : Value) (h0 : Heap) (n0 : Nat) (v : Option Value) (h : Heap) (L : List Loc) : Prop := v = some (.int ((((own_sel p1 w_o0_0 w_o0_1 w_o0_2 w_o0_3 w_o0_4 w_o0_5 w_o0_6 w_o0_7) &&& (255 : Int32)).toUInt32.toUInt16.toUInt32.toInt32).toUInt32.toUInt16.toUInt32.toInt32)) ∧ Fr n0 L ∧ h = h0
theorem own_pn_rm5 : plainName "java/lang/StringLatin1" = true := by first | (simp [plainName, overriddenIn]; done) | decide +kernel
theorem own_ef_rm5 (m : MethodId) (o0 : Addr) (p1 : Int32) : entryFrame m #[(.ref o0), (.int p1)] 2 = mkF m 0 #[.val (.ref o0), .val (.int p1)] [] := by first | (simp [entryFrame, mkF, argsToLocals, Value.category]; done) | rfl
set_option maxRecDepth 65536 in
set_option maxHeartbeats 40000000 in
theorem own_rm5 (l : Launch) (Z : State) (a0 : Array Value) (hw : ∀ d ∈ tables_1, d.before a0 Z = true) (ws : List Jvm.Cond) (o0 : Addr) (p1 : Int32) (k_o0 : ClassId) (w_o0_0 : Int32) (w_o0_1 : Int32) (w_o0_2 : Int32) (w_o0_3 : Int32) (w_o0_4 : Int32) (w_o0_5 : Int32) (w_o0_6 : Int32) (w_o0_7 : Int32) (sb : Value) (h0 : Heap) (n0 : Nat) (Z0 : n0 ≤ h0.size) (V_o0 : Arv Z h0 o0 k_o0 .byte (8 : Int32) [(.int w_o0_0), (.int w_o0_1), (.int w_o0_2), (.int w_o0_3), (.int w_o0_4), (.int w_o0_5), (.int w_o0_6), (.int w_o0_7)] (.int (0 : Int32))) (S_f : Sta Z h0 "jdk/internal/util/Preconditions" "SIOOBE_FORMATTER" "Ljava/util/function/BiFunction;" sb) (h1 : ¬ (p1 < (0 : Int32))) (h2 : p1 < (8 : Int32)) (hsb : sb = .null ∨ ∃ x, sb = .ref x) :
    MetFree l (⟨"java/lang/StringLatin1", "charAt", "([BI)C"⟩ : MethodName) (head1 (Jvm.Cond.code (⟨"java/lang/StringLatin1", "charAt", "([BI)C"⟩ : MethodName) jdk_43_method_2_code 2 (some .char) :: ws) ({ frames := 2, cells := 0, slots := 0, locals := 27 } : Room)) (fun a U => a = #[(.ref o0), (.int p1)] ∧ Z.Warmed39 U.vm ∧ U.heap = h0) (fun _ _ _ _ _ => True) (fun _ U o U' => ∃ v L, o = .returned v ∧ own_Q5 Z o0 p1 k_o0 w_o0_0 w_o0_1 w_o0_2 w_o0_3 w_o0_4 w_o0_5 w_o0_6 w_o0_7 sb h0 n0 v U'.heap L ∧ FrameEnd U o U' L ({ frames := 2, cells := 0, slots := 0, locals := 27 } : Room).cells ({ frames := 2, cells := 0, slots := 0, locals := 27 } : Room).slots) := by
  refine MetFree.of_bodySF (plainFor_of_name own_pn_rm5) hisR ?_
  intro p e s m args below meth c s₁ Bd hml0 hP hK
  obtain ⟨rfl, hZ, hh⟩ := hP
  have hx := Bd.exec
  have hby := Bd.bytes
  have hml : c.maxLocals = 2 := hml0
  have hown : s.vm.findClass "java/lang/StringLatin1" = some m.cls := findClass_of_methodNamed Bd.named
  have hnm := (name_of_methodNamed Bd.named Bd.method).1
  have X0 : Stand p l e ({ frames := 2, cells := 0, slots := 0, locals := 27 } : Room) s m #[(.ref o0), (.int p1)] below meth c s₁ [] 0 0 := Stand.of_body Bd
  have e0 : s₁.heap = h0 := by rw [← hh, Bd.state]; rfl
  have N0 := Fr.nil n0
  show own_End p e below s (own_Q5 Z o0 p1 k_o0 w_o0_0 w_o0_1 w_o0_2 w_o0_3 w_o0_4 w_o0_5 w_o0_6 w_o0_7 sb h0 n0) ({ frames := 2, cells := 0, slots := 0, locals := 27 } : Room).cells ({ frames := 2, cells := 0, slots := 0, locals := 27 } : Room).slots (s₁.setTop (entryFrame m #[(.ref o0), (.int p1)] 2))
  rw [own_ef_rm5]
  refine own_iloadN X0 hx (hb hby own_d5_0) rfl (q := 1) rfl ?_
  refine own_aloadN X0 hx (hb hby own_d5_1) rfl rfl (q := 2) rfl ?_
  obtain ⟨cl26, Ar26, q26, S26, N26v, H26, G26⟩ := id V_o0
  refine own_back (X0.arraylength hx (by rw [e0]; exact Ar26.1) (State.isArrayOf_alike hZ.alike Ar26.2.1) (g := (mkF m 2 #[.val (.ref o0), .val (.int p1)] [(.ref o0), (.int p1)])) rfl rfl (hb hby own_d5_2)) ?_
  rw [len_of S26 N26v]
  show own_End p e below s _ _ _ (s₁.setTop (mkF m 3 #[.val (.ref o0), .val (.int p1)] [(.int (8 : Int32)), (.int p1)]))
  obtain ⟨T27, Lc27, L27, X27, N27, hQ27, st27⟩ := own_shutS (val := none) (Q := own_Q6 Z p1 (8 : Int32) sb h0 n0) (rc := 0) (rs := 0) N0 (fun _ _ _ q => ⟨q.1, q.2.1⟩) (Jvm.LawKit.callS X0 hx (y := (⟨"java/lang/String", "checkIndex", "(II)V"⟩ : MethodName)) hown (mvT hZ (hw _ (List.mem_of_getElem? (i := 40) rfl))) (mvT hZ (hw _ (List.mem_of_getElem? (i := 41) rfl))) (mvT hZ (hw _ (List.mem_of_getElem? (i := 11) rfl))) (mvT hZ (hw _ (List.mem_of_getElem? (i := 42) rfl))) (by decide) (backOf (W := 0) (own_rm6 l Z a0 hw [] p1 (8 : Int32) sb h0 n0 Z0 S_f (by assumption : ¬ (p1 < (0 : Int32))) (by assumption : p1 < (8 : Int32)) (by assumption : sb = .null ∨ ∃ x, sb = .ref x)) hZ (hw _ (List.mem_of_getElem? (i := 42) rfl)) (hw _ (List.mem_of_getElem? (i := 11) rfl)) (by decide) (by decide)) (g := (mkF m 3 #[.val (.ref o0), .val (.int p1)] [(.int (8 : Int32)), (.int p1)])) rfl (by rw [hml]; rfl) (argsL := [(.int p1), (.int (8 : Int32))]) (rest := []) (lenOf own_pd1 rfl) rfl (by show 2 * 0 + _ ≤ _; exact Nat.le_of_eq rfl) (hb hby own_d5_3) (fun _ _ => ⟨rfl, e0, (by decide : 0 + 0 ≤ _), (by decide : 0 + 0 ≤ _)⟩))
  obtain ⟨-, -, e27⟩ := hQ27
  refine own_back st27 ?_
  show own_End p e below s _ _ _ (T27.setTop (mkF m 6 #[.val (.ref o0), .val (.int p1)] []))
  refine own_aloadN X27 hx (hb hby own_d5_6) rfl rfl (q := 7) rfl ?_
  refine own_iloadN X27 hx (hb hby own_d5_7) rfl (q := 8) rfl ?_
  obtain ⟨cl28, Ar28, q28, S28, N28v, H28, G28⟩ := id V_o0
  have hin28 : ¬ (p1 < 0 ∨ cl28.slots.size ≤ (p1).toNatClampNeg) := inb_of S28 ⟨h1, h2⟩
  refine own_back (X27.baloadBytes hx (j := p1) (v := (.int (own_sel p1 w_o0_0 w_o0_1 w_o0_2 w_o0_3 w_o0_4 w_o0_5 w_o0_6 w_o0_7))) (by rw [e27]; exact Ar28.1) (State.isArrayOf_alike hZ.alike Ar28.2.1) Ar28.2.2 hin28 (by rw [← own_selAt _ _ _ _ _ _ _ _ _ h2]; exact H28 _ (Nat.lt_of_not_le fun y => hin28 (Or.inr y))) (g := (mkF m 8 #[.val (.ref o0), .val (.int p1)] [(.int p1), (.ref o0)])) rfl rfl (hb hby own_d5_8)) ?_
  show own_End p e below s _ _ _ (T27.setTop (mkF m 9 #[.val (.ref o0), .val (.int p1)] [(.int (own_sel p1 w_o0_0 w_o0_1 w_o0_2 w_o0_3 w_o0_4 w_o0_5 w_o0_6 w_o0_7))]))
  refine own_sipush X27 hx (hb hby own_d5_9) (z := 255) rfl (q := 12) rfl ?_
  refine own_iand X27 hx (hb hby own_d5_12) (q := 13) rfl ?_
  refine own_i2c X27 hx (hb hby own_d5_13) (q := 14) rfl ?_
  refine own_retN X27 hx (t := .char) (by simp) Bd.returns Bd.notSynchronized (by decide) (by decide) (hb hby own_d5_14) ?_
  show own_Q5 Z o0 p1 k_o0 w_o0_0 w_o0_1 w_o0_2 w_o0_3 w_o0_4 w_o0_5 w_o0_6 w_o0_7 sb h0 n0 _ T27.heap _
  exact ⟨rfl, N27, e27⟩
theorem own_d4_0 : decode jdk_42_method_154_code 0 = .ok (.getstatic 38, 3) := by decide +kernel
theorem own_d4_3 : decode jdk_42_method_154_code 3 = .ok (.ifCond .eq 14, 3) := by decide +kernel
theorem own_d4_6 : decode jdk_42_method_154_code 6 = .ok (.aload_n 0, 1) := by decide +kernel
theorem own_d4_7 : decode jdk_42_method_154_code 7 = .ok (.getfield 15, 3) := by decide +kernel
theorem own_d4_10 : decode jdk_42_method_154_code 10 = .ok (.ifCond .ne 7, 3) := by decide +kernel
theorem own_d4_13 : decode jdk_42_method_154_code 13 = .ok (.iconst 1, 1) := by decide +kernel
theorem own_d4_14 : decode jdk_42_method_154_code 14 = .ok (.goto 4, 3) := by decide +kernel
theorem own_d4_18 : decode jdk_42_method_154_code 18 = .ok (.ireturn, 1) := by decide +kernel
def own_Q4 (Z : State) (o0 : Addr) (cs : Int32) (h0 : Heap) (n0 : Nat) (v : Option Value) (h : Heap) (L : List Loc) : Prop := v = some (.int (1 : Int32)) ∧ Fr n0 L ∧ h = h0
theorem own_pn_rm4 : plainName "java/lang/String" = true := by first | (simp [plainName, overriddenIn]; done) | decide +kernel
theorem own_ef_rm4 (m : MethodId) (o0 : Addr) : entryFrame m #[(.ref o0)] 1 = mkF m 0 #[.val (.ref o0)] [] := by first | (simp [entryFrame, mkF, argsToLocals, Value.category]; done) | rfl
set_option maxRecDepth 65536 in
set_option maxHeartbeats 40000000 in
theorem own_rm4 (l : Launch) (Z : State) (a0 : Array Value) (hw : ∀ d ∈ tables_1, d.before a0 Z = true) (ws : List Jvm.Cond) (o0 : Addr) (cs : Int32) (h0 : Heap) (n0 : Nat) (Z0 : n0 ≤ h0.size) (E_o0 : Exa Z h0 o0 "java/lang/String") (F_o0_coder : Fld Z h0 o0 "java/lang/String" "coder" "B" (.int (0 : Int32))) (S_c : Sta Z h0 "java/lang/String" "COMPACT_STRINGS" "Z" (.int cs)) (hcs : ¬ (cs = (0 : Int32))) :
    MetFree l (⟨"java/lang/String", "isLatin1", "()Z"⟩ : MethodName) (head1 (Jvm.Cond.code (⟨"java/lang/String", "isLatin1", "()Z"⟩ : MethodName) jdk_42_method_154_code 1 (some .boolean) :: ws) ({ frames := 0, cells := 0, slots := 0, locals := 0 } : Room)) (fun a U => a = #[(.ref o0)] ∧ Z.Warmed39 U.vm ∧ U.heap = h0) (fun _ _ _ _ _ => True) (fun _ U o U' => ∃ v L, o = .returned v ∧ own_Q4 Z o0 cs h0 n0 v U'.heap L ∧ FrameEnd U o U' L ({ frames := 0, cells := 0, slots := 0, locals := 0 } : Room).cells ({ frames := 0, cells := 0, slots := 0, locals := 0 } : Room).slots) := by
  refine MetFree.of_bodySF (plainFor_of_name own_pn_rm4) hisR ?_
  intro p e s m args below meth c s₁ Bd hml0 hP hK
  obtain ⟨rfl, hZ, hh⟩ := hP
  have hx := Bd.exec
  have hby := Bd.bytes
  have hml : c.maxLocals = 1 := hml0
  have hown : s.vm.findClass "java/lang/String" = some m.cls := findClass_of_methodNamed Bd.named
  have hnm := (name_of_methodNamed Bd.named Bd.method).1
  have X0 : Stand p l e ({ frames := 0, cells := 0, slots := 0, locals := 0 } : Room) s m #[(.ref o0)] below meth c s₁ [] 0 0 := Stand.of_body Bd
  have e0 : s₁.heap = h0 := by rw [← hh, Bd.state]; rfl
  have N0 := Fr.nil n0
  show own_End p e below s (own_Q4 Z o0 cs h0 n0) ({ frames := 0, cells := 0, slots := 0, locals := 0 } : Room).cells ({ frames := 0, cells := 0, slots := 0, locals := 0 } : Room).slots (s₁.setTop (entryFrame m #[(.ref o0)] 1))
  rw [own_ef_rm4]
  obtain ⟨T30, X30, e30, st30⟩ := getS2 X0 hx hZ hown (host := "") (Or.inl (hw _ (List.mem_of_getElem? (i := 33) rfl))) Via.refl e0 S_c (g := (mkF m 0 #[.val (.ref o0)] [])) rfl (hb hby own_d4_0)
  refine own_back st30 ?_
  show own_End p e below s _ _ _ (T30.setTop (mkF m 3 #[.val (.ref o0)] [(.int cs)]))
  have hk31 : ¬ (cs = (0 : Int32)) := hcs
  refine own_ifN X30 hx (hb hby own_d4_3) (feq hk31).1 (q := 6) rfl ?_
  refine own_aloadN X30 hx (hb hby own_d4_6) rfl rfl (q := 7) rfl ?_
  obtain ⟨T32, X32, e32, st32⟩ := getF X30 hx hZ hown (host := "") (Or.inl (hw _ (List.mem_of_getElem? (i := 34) rfl))) Via.refl e30 F_o0_coder (g := (mkF m 7 #[.val (.ref o0)] [(.ref o0)])) rfl rfl (hb hby own_d4_7)
  refine own_back st32 ?_
  show own_End p e below s _ _ _ (T32.setTop (mkF m 10 #[.val (.ref o0)] [(.int (0 : Int32))]))
  refine own_ifN X32 hx (hb hby own_d4_10) (teq (by decide : ((0 : Int32) = (0 : Int32)))).2 (q := 13) rfl ?_
  refine own_iconst X32 hx (hb hby own_d4_13) (z := 1) rfl (q := 14) rfl ?_
  refine own_goto X32 hx (hb hby own_d4_14) (q := 18) (by decide) (by decide) ?_
  refine own_retN X32 hx (t := .boolean) (by simp) Bd.returns Bd.notSynchronized (by decide) (by decide) (hb hby own_d4_18) ?_
  show own_Q4 Z o0 cs h0 n0 _ T32.heap _
  exact ⟨rfl, N0, e32⟩
theorem own_d3_0 : decode jdk_42_method_56_code 0 = .ok (.aload_n 0, 1) := by decide +kernel
theorem own_d3_1 : decode jdk_42_method_56_code 1 = .ok (.invokevirtual 492, 3) := by decide +kernel
theorem own_pd2 : parseMethodDescriptor "()Z" = some ⟨[], some .boolean⟩ := by decide +kernel
theorem own_d3_4 : decode jdk_42_method_56_code 4 = .ok (.ifCond .eq 12, 3) := by decide +kernel
theorem own_d3_7 : decode jdk_42_method_56_code 7 = .ok (.aload_n 0, 1) := by decide +kernel
theorem own_d3_8 : decode jdk_42_method_56_code 8 = .ok (.getfield 9, 3) := by decide +kernel
theorem own_d3_11 : decode jdk_42_method_56_code 11 = .ok (.iload_n 1, 1) := by decide +kernel
theorem own_d3_12 : decode jdk_42_method_56_code 12 = .ok (.invokestatic 495, 3) := by decide +kernel
theorem own_pd3 : parseMethodDescriptor "([BI)C" = some ⟨[(.array .byte), .int], some .char⟩ := by decide +kernel
theorem own_d3_15 : decode jdk_42_method_56_code 15 = .ok (.ireturn, 1) := by decide +kernel
def own_Q3 (Z : State) (o0 : Addr) (p1 : Int32) (w_o0_value : Addr) (k_w_o0_value : ClassId) (w_w_o0_value_0 : Int32) (w_w_o0_value_1 : Int32) (w_w_o0_value_2 : Int32) (w_w_o0_value_3 : Int32) (w_w_o0_value_4 : Int32) (w_w_o0_value_5 : Int32) (w_w_o0_value_6 : Int32) (w_w_o0_value_7 : Int32) (cs : Int32) (sb : Value) (h0 : Heap) (n0 : Nat) (v : Option Value) (h : Heap) (L : List Loc) : Prop := v = some (.int (((((own_sel p1 w_w_o0_value_0 w_w_o0_value_1 w_w_o0_value_2 w_w_o0_value_3 w_w_o0_value_4 w_w_o0_value_5 w_w_o0_value_6 w_w_o0_value_7) &&& (255 : Int32)).toUInt32.toUInt16.toUInt32.toInt32).toUInt32.toUInt16.toUInt32.toInt32).toUInt32.toUInt16.toUInt32.toInt32)) ∧ Fr n0 L ∧ h = h0
theorem own_pn_rm3 : plainName "java/lang/String" = true := by first | (simp [plainName, overriddenIn]; done) | decide +kernel
theorem own_ef_rm3 (m : MethodId) (o0 : Addr) (p1 : Int32) : entryFrame m #[(.ref o0), (.int p1)] 2 = mkF m 0 #[.val (.ref o0), .val (.int p1)] [] := by first | (simp [entryFrame, mkF, argsToLocals, Value.category]; done) | rfl
set_option maxRecDepth 65536 in
set_option maxHeartbeats 40000000 in
theorem own_rm3 (l : Launch) (Z : State) (a0 : Array Value) (hw : ∀ d ∈ tables_1, d.before a0 Z = true) (ws : List Jvm.Cond) (o0 : Addr) (p1 : Int32) (w_o0_value : Addr) (k_w_o0_value : ClassId) (w_w_o0_value_0 : Int32) (w_w_o0_value_1 : Int32) (w_w_o0_value_2 : Int32) (w_w_o0_value_3 : Int32) (w_w_o0_value_4 : Int32) (w_w_o0_value_5 : Int32) (w_w_o0_value_6 : Int32) (w_w_o0_value_7 : Int32) (cs : Int32) (sb : Value) (h0 : Heap) (n0 : Nat) (Z0 : n0 ≤ h0.size) (E_o0 : Exa Z h0 o0 "java/lang/String") (F_o0_value : Fld Z h0 o0 "java/lang/String" "value" "[B" (.ref w_o0_value)) (F_o0_coder : Fld Z h0 o0 "java/lang/String" "coder" "B" (.int (0 : Int32))) (V_w_o0_value : Arv Z h0 w_o0_value k_w_o0_value .byte (8 : Int32) [(.int w_w_o0_value_0), (.int w_w_o0_value_1), (.int w_w_o0_value_2), (.int w_w_o0_value_3), (.int w_w_o0_value_4), (.int w_w_o0_value_5), (.int w_w_o0_value_6), (.int w_w_o0_value_7)] (.int (0 : Int32))) (S_c : Sta Z h0 "java/lang/String" "COMPACT_STRINGS" "Z" (.int cs)) (S_f : Sta Z h0 "jdk/internal/util/Preconditions" "SIOOBE_FORMATTER" "Ljava/util/function/BiFunction;" sb) (hcs : ¬ (cs = (0 : Int32))) (hsb : sb = .null ∨ ∃ x, sb = .ref x) (h1 : ¬ (p1 < (0 : Int32))) (h2 : p1 < (8 : Int32)) :
    MetFree l (⟨"java/lang/String", "charAt", "(I)C"⟩ : MethodName) (head1 (Jvm.Cond.code (⟨"java/lang/String", "charAt", "(I)C"⟩ : MethodName) jdk_42_method_56_code 2 (some .char) :: ws) ({ frames := 3, cells := 0, slots := 0, locals := 40 } : Room)) (fun a U => a = #[(.ref o0), (.int p1)] ∧ Z.Warmed39 U.vm ∧ U.heap = h0) (fun _ _ _ _ _ => True) (fun _ U o U' => ∃ v L, o = .returned v ∧ own_Q3 Z o0 p1 w_o0_value k_w_o0_value w_w_o0_value_0 w_w_o0_value_1 w_w_o0_value_2 w_w_o0_value_3 w_w_o0_value_4 w_w_o0_value_5 w_w_o0_value_6 w_w_o0_value_7 cs sb h0 n0 v U'.heap L ∧ FrameEnd U o U' L ({ frames := 3, cells := 0, slots := 0, locals := 40 } : Room).cells ({ frames := 3, cells := 0, slots := 0, locals := 40 } : Room).slots) := by
  refine MetFree.of_bodySF (plainFor_of_name own_pn_rm3) hisR ?_
  intro p e s m args below meth c s₁ Bd hml0 hP hK
  obtain ⟨rfl, hZ, hh⟩ := hP
  have hx := Bd.exec
  have hby := Bd.bytes
  have hml : c.maxLocals = 2 := hml0
  have hown : s.vm.findClass "java/lang/String" = some m.cls := findClass_of_methodNamed Bd.named
  have hnm := (name_of_methodNamed Bd.named Bd.method).1
  have X0 : Stand p l e ({ frames := 3, cells := 0, slots := 0, locals := 40 } : Room) s m #[(.ref o0), (.int p1)] below meth c s₁ [] 0 0 := Stand.of_body Bd
  have e0 : s₁.heap = h0 := by rw [← hh, Bd.state]; rfl
  have N0 := Fr.nil n0
  show own_End p e below s (own_Q3 Z o0 p1 w_o0_value k_w_o0_value w_w_o0_value_0 w_w_o0_value_1 w_w_o0_value_2 w_w_o0_value_3 w_w_o0_value_4 w_w_o0_value_5 w_w_o0_value_6 w_w_o0_value_7 cs sb h0 n0) ({ frames := 3, cells := 0, slots := 0, locals := 40 } : Room).cells ({ frames := 3, cells := 0, slots := 0, locals := 40 } : Room).slots (s₁.setTop (entryFrame m #[(.ref o0), (.int p1)] 2))
  rw [own_ef_rm3]
  refine own_aloadN X0 hx (hb hby own_d3_0) rfl rfl (q := 1) rfl ?_
  obtain ⟨cq34, kq34, q34a, q34b, q34c⟩ := isOf hZ e0 E_o0
  obtain ⟨T34, Lc34, L34, X34, N34, hQ34, st34⟩ := own_shutV (val := some (.int (1 : Int32))) (Q := own_Q4 Z o0 cs h0 n0) (rc := 0) (rs := 0) N0 (fun _ _ _ q => ⟨q.1, q.2.1⟩) (X0.virtualBack hx (y := (⟨"java/lang/String", "isLatin1", "()Z"⟩ : MethodName)) (z := (⟨"java/lang/String", "isLatin1", "()Z"⟩ : MethodName)) hown (mvT hZ (hw _ (List.mem_of_getElem? (i := 28) rfl))) (mvT hZ (hw _ (List.mem_of_getElem? (i := 29) rfl))) (notFace_of_selects (args := #[]) (mvT hZ (hw _ (List.mem_of_getElem? (i := 31) rfl)))) (mvT hZ (hw _ (List.mem_of_getElem? (i := 31) rfl))) (mvT hZ (hw _ (List.mem_of_getElem? (i := 30) rfl))) (by decide) (backOf (W := 0) (own_rm4 l Z a0 hw [] o0 cs h0 n0 Z0 E_o0 F_o0_coder S_c (by assumption : ¬ (cs = (0 : Int32)))) hZ (hw _ (List.mem_of_getElem? (i := 32) rfl)) (hw _ (List.mem_of_getElem? (i := 11) rfl)) (by decide) (by decide)) q34a q34c (g := (mkF m 1 #[.val (.ref o0), .val (.int p1)] [(.ref o0)])) rfl (by rw [hml]; rfl) (Steps.refl _) (argsL := []) (rest := []) (lenOf own_pd2 rfl) rfl (by show 2 * 0 + _ ≤ _; exact Nat.le_of_eq rfl) (hb hby own_d3_1) (fun _ _ => ⟨rfl, e0, (by decide : 0 + 0 ≤ _), (by decide : 0 + 0 ≤ _)⟩))
  obtain ⟨-, -, e34⟩ := hQ34
  refine own_via st34 ?_
  show own_End p e below s _ _ _ (T34.setTop (mkF m 4 #[.val (.ref o0), .val (.int p1)] [(.int (1 : Int32))]))
  refine own_ifN X34 hx (hb hby own_d3_4) (feq (by decide : ¬ ((1 : Int32) = (0 : Int32)))).1 (q := 7) rfl ?_
  refine own_aloadN X34 hx (hb hby own_d3_7) rfl rfl (q := 8) rfl ?_
  obtain ⟨T35, X35, e35, st35⟩ := getF X34 hx hZ hown (host := "") (Or.inl (hw _ (List.mem_of_getElem? (i := 35) rfl))) Via.refl e34 F_o0_value (g := (mkF m 8 #[.val (.ref o0), .val (.int p1)] [(.ref o0)])) rfl rfl (hb hby own_d3_8)
  refine own_back st35 ?_
  show own_End p e below s _ _ _ (T35.setTop (mkF m 11 #[.val (.ref o0), .val (.int p1)] [(.ref w_o0_value)]))
  refine own_iloadN X35 hx (hb hby own_d3_11) rfl (q := 12) rfl ?_
  obtain ⟨T36, Lc36, L36, X36, N36, hQ36, st36⟩ := own_shutS (val := some (.int ((((own_sel p1 w_w_o0_value_0 w_w_o0_value_1 w_w_o0_value_2 w_w_o0_value_3 w_w_o0_value_4 w_w_o0_value_5 w_w_o0_value_6 w_w_o0_value_7) &&& (255 : Int32)).toUInt32.toUInt16.toUInt32.toInt32).toUInt32.toUInt16.toUInt32.toInt32))) (Q := own_Q5 Z w_o0_value p1 k_w_o0_value w_w_o0_value_0 w_w_o0_value_1 w_w_o0_value_2 w_w_o0_value_3 w_w_o0_value_4 w_w_o0_value_5 w_w_o0_value_6 w_w_o0_value_7 sb h0 n0) (rc := 0) (rs := 0) N34 (fun _ _ _ q => ⟨q.1, q.2.1⟩) (Jvm.LawKit.callS X35 hx (y := (⟨"java/lang/StringLatin1", "charAt", "([BI)C"⟩ : MethodName)) hown (mvT hZ (hw _ (List.mem_of_getElem? (i := 36) rfl))) (mvT hZ (hw _ (List.mem_of_getElem? (i := 37) rfl))) (mvT hZ (hw _ (List.mem_of_getElem? (i := 38) rfl))) (mvT hZ (hw _ (List.mem_of_getElem? (i := 39) rfl))) (by decide) (backOf (W := 0) (own_rm5 l Z a0 hw [] w_o0_value p1 k_w_o0_value w_w_o0_value_0 w_w_o0_value_1 w_w_o0_value_2 w_w_o0_value_3 w_w_o0_value_4 w_w_o0_value_5 w_w_o0_value_6 w_w_o0_value_7 sb h0 n0 Z0 V_w_o0_value S_f (by assumption : ¬ (p1 < (0 : Int32))) (by assumption : p1 < (8 : Int32)) (by assumption : sb = .null ∨ ∃ x, sb = .ref x)) hZ (hw _ (List.mem_of_getElem? (i := 39) rfl)) (hw _ (List.mem_of_getElem? (i := 38) rfl)) (by decide) (by decide)) (g := (mkF m 12 #[.val (.ref o0), .val (.int p1)] [(.int p1), (.ref w_o0_value)])) rfl (by rw [hml]; rfl) (argsL := [(.ref w_o0_value), (.int p1)]) (rest := []) (lenOf own_pd3 rfl) rfl (by show 2 * 0 + _ ≤ _; exact Nat.le_of_eq rfl) (hb hby own_d3_12) (fun _ _ => ⟨rfl, e35, (by decide : 0 + 0 ≤ _), (by decide : 0 + 0 ≤ _)⟩))
  obtain ⟨-, -, e36⟩ := hQ36
  refine own_back st36 ?_
  show own_End p e below s _ _ _ (T36.setTop (mkF m 15 #[.val (.ref o0), .val (.int p1)] [(.int ((((own_sel p1 w_w_o0_value_0 w_w_o0_value_1 w_w_o0_value_2 w_w_o0_value_3 w_w_o0_value_4 w_w_o0_value_5 w_w_o0_value_6 w_w_o0_value_7) &&& (255 : Int32)).toUInt32.toUInt16.toUInt32.toInt32).toUInt32.toUInt16.toUInt32.toInt32))]))
  refine own_retN X36 hx (t := .char) (by simp) Bd.returns Bd.notSynchronized (by decide) (by decide) (hb hby own_d3_15) ?_
  show own_Q3 Z o0 p1 w_o0_value k_w_o0_value w_w_o0_value_0 w_w_o0_value_1 w_w_o0_value_2 w_w_o0_value_3 w_w_o0_value_4 w_w_o0_value_5 w_w_o0_value_6 w_w_o0_value_7 cs sb h0 n0 _ T36.heap _
  exact ⟨rfl, N36, e36⟩
theorem own_j7 (x : Int32) : ¬ ((x &&& 7) < 0) ∧ (x &&& 7) < 8 := by
  have e : (x &&& 7).toInt = x.toInt % 2 ^ 3 := Jvm.Kit.i32_mask x 7 (k := 3) (by decide) (by decide)
  have e0 : (0 : Int32).toInt = 0 := by decide
  have e8 : (8 : Int32).toInt = 8 := by decide
  rw [Int32.lt_iff_toInt_lt, Int32.lt_iff_toInt_lt]
  omega
theorem own_fin (x : Int32) (h1 : ¬ x < 0) (h2 : x < 128) : ∃ n : Fin 128, x = Int32.ofNat n.val := by
  rw [Int32.lt_iff_toInt_lt] at h1 h2
  have e0 : (0 : Int32).toInt = 0 := by decide
  have e1 : (128 : Int32).toInt = 128 := by decide
  refine ⟨⟨x.toInt.toNat, by omega⟩, Int32.toInt_inj.mp ?_⟩
  rw [Int32.toInt_ofNat_of_lt (by show x.toInt.toNat < 2147483648; omega)]
  show x.toInt = ((x.toInt.toNat : Nat) : Int)
  omega
theorem own_row (x : Int32) (h1 : ¬ x < 0) (h2 : x < 128) (k0 : ¬ (x >>> ((3 : Int32) &&& 31)) = 0) (k1 : ¬ (x >>> ((3 : Int32) &&& 31)) = 1) (k2 : ¬ (x >>> ((3 : Int32) &&& 31)) = 2) (k3 : ¬ (x >>> ((3 : Int32) &&& 31)) = 3) (k4 : ¬ (x >>> ((3 : Int32) &&& 31)) = 4) (k5 : ¬ (x >>> ((3 : Int32) &&& 31)) = 5) (k6 : ¬ (x >>> ((3 : Int32) &&& 31)) = 6) (k7 : ¬ (x >>> ((3 : Int32) &&& 31)) = 7) (k8 : ¬ (x >>> ((3 : Int32) &&& 31)) = 8) (k9 : ¬ (x >>> ((3 : Int32) &&& 31)) = 9) (k10 : ¬ (x >>> ((3 : Int32) &&& 31)) = 10) (k11 : ¬ (x >>> ((3 : Int32) &&& 31)) = 11) (k12 : ¬ (x >>> ((3 : Int32) &&& 31)) = 12) (k13 : ¬ (x >>> ((3 : Int32) &&& 31)) = 13) (k14 : ¬ (x >>> ((3 : Int32) &&& 31)) = 14) : (x >>> ((3 : Int32) &&& 31)) = 15 := by
  obtain ⟨n, rfl⟩ := own_fin x h1 h2
  have q : ∀ n : Fin 128, (Int32.ofNat n.val >>> ((3 : Int32) &&& 31)) = Int32.ofNat (n.val / 8) := by decide +kernel
  rw [q n] at *
  have hm : n.val / 8 < 16 := by have := n.isLt; omega
  generalize n.val / 8 = m at *
  match m, hm with
  | 0, _ => exact (k0 rfl).elim
  | 1, _ => exact (k1 rfl).elim
  | 2, _ => exact (k2 rfl).elim
  | 3, _ => exact (k3 rfl).elim
  | 4, _ => exact (k4 rfl).elim
  | 5, _ => exact (k5 rfl).elim
  | 6, _ => exact (k6 rfl).elim
  | 7, _ => exact (k7 rfl).elim
  | 8, _ => exact (k8 rfl).elim
  | 9, _ => exact (k9 rfl).elim
  | 10, _ => exact (k10 rfl).elim
  | 11, _ => exact (k11 rfl).elim
  | 12, _ => exact (k12 rfl).elim
  | 13, _ => exact (k13 rfl).elim
  | 14, _ => exact (k14 rfl).elim
  | 15, _ => rfl
  | m + 16, h => exact absurd h (by omega)
theorem own_d2_0 : decode method_2_code 0 = .ok (.iload_n 0, 1) := by decide +kernel
theorem own_d2_1 : decode method_2_code 1 = .ok (.ifCond .lt 10, 3) := by decide +kernel
theorem own_d2_11 : decode method_2_code 11 = .ok (.iconst 0, 1) := by decide +kernel
theorem own_d2_12 : decode method_2_code 12 = .ok (.ireturn, 1) := by decide +kernel
theorem own_d2_4 : decode method_2_code 4 = .ok (.iload_n 0, 1) := by decide +kernel
theorem own_d2_5 : decode method_2_code 5 = .ok (.sipush 128, 3) := by decide +kernel
theorem own_d2_8 : decode method_2_code 8 = .ok (.if_icmp .lt 5, 3) := by decide +kernel
theorem own_d2_13 : decode method_2_code 13 = .ok (.bipush 16, 2) := by decide +kernel
theorem own_d2_15 : decode method_2_code 15 = .ok (.anewarray 7, 3) := by decide +kernel
theorem own_d2_18 : decode method_2_code 18 = .ok (.dup, 1) := by decide +kernel
theorem own_d2_19 : decode method_2_code 19 = .ok (.iconst 0, 1) := by decide +kernel
theorem own_d2_20 : decode method_2_code 20 = .ok (.ldc 9, 2) := by decide +kernel
theorem own_d2_22 : decode method_2_code 22 = .ok (.aastore, 1) := by decide +kernel
theorem own_d2_23 : decode method_2_code 23 = .ok (.dup, 1) := by decide +kernel
theorem own_d2_24 : decode method_2_code 24 = .ok (.iconst 1, 1) := by decide +kernel
theorem own_d2_25 : decode method_2_code 25 = .ok (.ldc 9, 2) := by decide +kernel
theorem own_d2_27 : decode method_2_code 27 = .ok (.aastore, 1) := by decide +kernel
theorem own_d2_28 : decode method_2_code 28 = .ok (.dup, 1) := by decide +kernel
theorem own_d2_29 : decode method_2_code 29 = .ok (.iconst 2, 1) := by decide +kernel
theorem own_d2_30 : decode method_2_code 30 = .ok (.ldc 9, 2) := by decide +kernel
theorem own_d2_32 : decode method_2_code 32 = .ok (.aastore, 1) := by decide +kernel
theorem own_d2_33 : decode method_2_code 33 = .ok (.dup, 1) := by decide +kernel
theorem own_d2_34 : decode method_2_code 34 = .ok (.iconst 3, 1) := by decide +kernel
theorem own_d2_35 : decode method_2_code 35 = .ok (.ldc 9, 2) := by decide +kernel
theorem own_d2_37 : decode method_2_code 37 = .ok (.aastore, 1) := by decide +kernel
theorem own_d2_38 : decode method_2_code 38 = .ok (.dup, 1) := by decide +kernel
theorem own_d2_39 : decode method_2_code 39 = .ok (.iconst 4, 1) := by decide +kernel
theorem own_d2_40 : decode method_2_code 40 = .ok (.ldc 9, 2) := by decide +kernel
theorem own_d2_42 : decode method_2_code 42 = .ok (.aastore, 1) := by decide +kernel
theorem own_d2_43 : decode method_2_code 43 = .ok (.dup, 1) := by decide +kernel
theorem own_d2_44 : decode method_2_code 44 = .ok (.iconst 5, 1) := by decide +kernel
theorem own_d2_45 : decode method_2_code 45 = .ok (.ldc 9, 2) := by decide +kernel
theorem own_d2_47 : decode method_2_code 47 = .ok (.aastore, 1) := by decide +kernel
theorem own_d2_48 : decode method_2_code 48 = .ok (.dup, 1) := by decide +kernel
theorem own_d2_49 : decode method_2_code 49 = .ok (.bipush 6, 2) := by decide +kernel
theorem own_d2_51 : decode method_2_code 51 = .ok (.ldc 11, 2) := by decide +kernel
theorem own_d2_53 : decode method_2_code 53 = .ok (.aastore, 1) := by decide +kernel
theorem own_d2_54 : decode method_2_code 54 = .ok (.dup, 1) := by decide +kernel
theorem own_d2_55 : decode method_2_code 55 = .ok (.bipush 7, 2) := by decide +kernel
theorem own_d2_57 : decode method_2_code 57 = .ok (.ldc 13, 2) := by decide +kernel
theorem own_d2_59 : decode method_2_code 59 = .ok (.aastore, 1) := by decide +kernel
theorem own_d2_60 : decode method_2_code 60 = .ok (.dup, 1) := by decide +kernel
theorem own_d2_61 : decode method_2_code 61 = .ok (.bipush 8, 2) := by decide +kernel
theorem own_d2_63 : decode method_2_code 63 = .ok (.ldc 15, 2) := by decide +kernel
theorem own_d2_65 : decode method_2_code 65 = .ok (.aastore, 1) := by decide +kernel
theorem own_d2_66 : decode method_2_code 66 = .ok (.dup, 1) := by decide +kernel
theorem own_d2_67 : decode method_2_code 67 = .ok (.bipush 9, 2) := by decide +kernel
theorem own_d2_69 : decode method_2_code 69 = .ok (.ldc 11, 2) := by decide +kernel
theorem own_d2_71 : decode method_2_code 71 = .ok (.aastore, 1) := by decide +kernel
theorem own_d2_72 : decode method_2_code 72 = .ok (.dup, 1) := by decide +kernel
theorem own_d2_73 : decode method_2_code 73 = .ok (.bipush 10, 2) := by decide +kernel
theorem own_d2_75 : decode method_2_code 75 = .ok (.ldc 11, 2) := by decide +kernel
theorem own_d2_77 : decode method_2_code 77 = .ok (.aastore, 1) := by decide +kernel
theorem own_d2_78 : decode method_2_code 78 = .ok (.dup, 1) := by decide +kernel
theorem own_d2_79 : decode method_2_code 79 = .ok (.bipush 11, 2) := by decide +kernel
theorem own_d2_81 : decode method_2_code 81 = .ok (.ldc 17, 2) := by decide +kernel
theorem own_d2_83 : decode method_2_code 83 = .ok (.aastore, 1) := by decide +kernel
theorem own_d2_84 : decode method_2_code 84 = .ok (.dup, 1) := by decide +kernel
theorem own_d2_85 : decode method_2_code 85 = .ok (.bipush 12, 2) := by decide +kernel
theorem own_d2_87 : decode method_2_code 87 = .ok (.ldc 9, 2) := by decide +kernel
theorem own_d2_89 : decode method_2_code 89 = .ok (.aastore, 1) := by decide +kernel
theorem own_d2_90 : decode method_2_code 90 = .ok (.dup, 1) := by decide +kernel
theorem own_d2_91 : decode method_2_code 91 = .ok (.bipush 13, 2) := by decide +kernel
theorem own_d2_93 : decode method_2_code 93 = .ok (.ldc 9, 2) := by decide +kernel
theorem own_d2_95 : decode method_2_code 95 = .ok (.aastore, 1) := by decide +kernel
theorem own_d2_96 : decode method_2_code 96 = .ok (.dup, 1) := by decide +kernel
theorem own_d2_97 : decode method_2_code 97 = .ok (.bipush 14, 2) := by decide +kernel
theorem own_d2_99 : decode method_2_code 99 = .ok (.ldc 9, 2) := by decide +kernel
theorem own_d2_101 : decode method_2_code 101 = .ok (.aastore, 1) := by decide +kernel
theorem own_d2_102 : decode method_2_code 102 = .ok (.dup, 1) := by decide +kernel
theorem own_d2_103 : decode method_2_code 103 = .ok (.bipush 15, 2) := by decide +kernel
theorem own_d2_105 : decode method_2_code 105 = .ok (.ldc 9, 2) := by decide +kernel
theorem own_d2_107 : decode method_2_code 107 = .ok (.aastore, 1) := by decide +kernel
theorem own_d2_108 : decode method_2_code 108 = .ok (.astore_n 1, 1) := by decide +kernel
theorem own_d2_109 : decode method_2_code 109 = .ok (.aload_n 1, 1) := by decide +kernel
theorem own_d2_110 : decode method_2_code 110 = .ok (.iload_n 0, 1) := by decide +kernel
theorem own_d2_111 : decode method_2_code 111 = .ok (.iconst 3, 1) := by decide +kernel
theorem own_d2_112 : decode method_2_code 112 = .ok (.ishr, 1) := by decide +kernel
theorem own_d2_113 : decode method_2_code 113 = .ok (.aaload, 1) := by decide +kernel
theorem own_d2_114 : decode method_2_code 114 = .ok (.iload_n 0, 1) := by decide +kernel
theorem own_d2_115 : decode method_2_code 115 = .ok (.bipush 7, 2) := by decide +kernel
theorem own_d2_117 : decode method_2_code 117 = .ok (.iand, 1) := by decide +kernel
theorem own_d2_118 : decode method_2_code 118 = .ok (.invokevirtual 19, 3) := by decide +kernel
theorem own_pd4 : parseMethodDescriptor "(I)C" = some ⟨[.int], some .char⟩ := by decide +kernel
theorem own_d2_121 : decode method_2_code 121 = .ok (.bipush 49, 2) := by decide +kernel
theorem own_d2_123 : decode method_2_code 123 = .ok (.if_icmp .ne 7, 3) := by decide +kernel
theorem own_d2_126 : decode method_2_code 126 = .ok (.iconst 1, 1) := by decide +kernel
theorem own_d2_127 : decode method_2_code 127 = .ok (.goto 4, 3) := by decide +kernel
theorem own_d2_131 : decode method_2_code 131 = .ok (.ireturn, 1) := by decide +kernel
theorem own_d2_130 : decode method_2_code 130 = .ok (.iconst 0, 1) := by decide +kernel
def own_F2 (p0 : Int32) : Int32 := (if p0 < (0 : Int32) then (0 : Int32) else (if p0 < (128 : Int32) then (if (p0 >>> ((3 : Int32) &&& 31)) = (0 : Int32) then (if (((((own_sel (p0 &&& (7 : Int32)) (48 : Int32) (48 : Int32) (48 : Int32) (48 : Int32) (48 : Int32) (48 : Int32) (48 : Int32) (48 : Int32)) &&& (255 : Int32)).toUInt32.toUInt16.toUInt32.toInt32).toUInt32.toUInt16.toUInt32.toInt32).toUInt32.toUInt16.toUInt32.toInt32) = (49 : Int32) then (1 : Int32) else (0 : Int32)) else (if (p0 >>> ((3 : Int32) &&& 31)) = (1 : Int32) then (if (((((own_sel (p0 &&& (7 : Int32)) (48 : Int32) (48 : Int32) (48 : Int32) (48 : Int32) (48 : Int32) (48 : Int32) (48 : Int32) (48 : Int32)) &&& (255 : Int32)).toUInt32.toUInt16.toUInt32.toInt32).toUInt32.toUInt16.toUInt32.toInt32).toUInt32.toUInt16.toUInt32.toInt32) = (49 : Int32) then (1 : Int32) else (0 : Int32)) else (if (p0 >>> ((3 : Int32) &&& 31)) = (2 : Int32) then (if (((((own_sel (p0 &&& (7 : Int32)) (48 : Int32) (48 : Int32) (48 : Int32) (48 : Int32) (48 : Int32) (48 : Int32) (48 : Int32) (48 : Int32)) &&& (255 : Int32)).toUInt32.toUInt16.toUInt32.toInt32).toUInt32.toUInt16.toUInt32.toInt32).toUInt32.toUInt16.toUInt32.toInt32) = (49 : Int32) then (1 : Int32) else (0 : Int32)) else (if (p0 >>> ((3 : Int32) &&& 31)) = (3 : Int32) then (if (((((own_sel (p0 &&& (7 : Int32)) (48 : Int32) (48 : Int32) (48 : Int32) (48 : Int32) (48 : Int32) (48 : Int32) (48 : Int32) (48 : Int32)) &&& (255 : Int32)).toUInt32.toUInt16.toUInt32.toInt32).toUInt32.toUInt16.toUInt32.toInt32).toUInt32.toUInt16.toUInt32.toInt32) = (49 : Int32) then (1 : Int32) else (0 : Int32)) else (if (p0 >>> ((3 : Int32) &&& 31)) = (4 : Int32) then (if (((((own_sel (p0 &&& (7 : Int32)) (48 : Int32) (48 : Int32) (48 : Int32) (48 : Int32) (48 : Int32) (48 : Int32) (48 : Int32) (48 : Int32)) &&& (255 : Int32)).toUInt32.toUInt16.toUInt32.toInt32).toUInt32.toUInt16.toUInt32.toInt32).toUInt32.toUInt16.toUInt32.toInt32) = (49 : Int32) then (1 : Int32) else (0 : Int32)) else (if (p0 >>> ((3 : Int32) &&& 31)) = (5 : Int32) then (if (((((own_sel (p0 &&& (7 : Int32)) (48 : Int32) (48 : Int32) (48 : Int32) (48 : Int32) (48 : Int32) (48 : Int32) (48 : Int32) (48 : Int32)) &&& (255 : Int32)).toUInt32.toUInt16.toUInt32.toInt32).toUInt32.toUInt16.toUInt32.toInt32).toUInt32.toUInt16.toUInt32.toInt32) = (49 : Int32) then (1 : Int32) else (0 : Int32)) else (if (p0 >>> ((3 : Int32) &&& 31)) = (6 : Int32) then (if (((((own_sel (p0 &&& (7 : Int32)) (49 : Int32) (49 : Int32) (49 : Int32) (49 : Int32) (49 : Int32) (49 : Int32) (49 : Int32) (49 : Int32)) &&& (255 : Int32)).toUInt32.toUInt16.toUInt32.toInt32).toUInt32.toUInt16.toUInt32.toInt32).toUInt32.toUInt16.toUInt32.toInt32) = (49 : Int32) then (1 : Int32) else (0 : Int32)) else (if (p0 >>> ((3 : Int32) &&& 31)) = (7 : Int32) then (if (((((own_sel (p0 &&& (7 : Int32)) (49 : Int32) (49 : Int32) (48 : Int32) (48 : Int32) (48 : Int32) (48 : Int32) (48 : Int32) (48 : Int32)) &&& (255 : Int32)).toUInt32.toUInt16.toUInt32.toInt32).toUInt32.toUInt16.toUInt32.toInt32).toUInt32.toUInt16.toUInt32.toInt32) = (49 : Int32) then (1 : Int32) else (0 : Int32)) else (if (p0 >>> ((3 : Int32) &&& 31)) = (8 : Int32) then (if (((((own_sel (p0 &&& (7 : Int32)) (48 : Int32) (49 : Int32) (49 : Int32) (49 : Int32) (49 : Int32) (49 : Int32) (49 : Int32) (49 : Int32)) &&& (255 : Int32)).toUInt32.toUInt16.toUInt32.toInt32).toUInt32.toUInt16.toUInt32.toInt32).toUInt32.toUInt16.toUInt32.toInt32) = (49 : Int32) then (1 : Int32) else (0 : Int32)) else (if (p0 >>> ((3 : Int32) &&& 31)) = (9 : Int32) then (if (((((own_sel (p0 &&& (7 : Int32)) (49 : Int32) (49 : Int32) (49 : Int32) (49 : Int32) (49 : Int32) (49 : Int32) (49 : Int32) (49 : Int32)) &&& (255 : Int32)).toUInt32.toUInt16.toUInt32.toInt32).toUInt32.toUInt16.toUInt32.toInt32).toUInt32.toUInt16.toUInt32.toInt32) = (49 : Int32) then (1 : Int32) else (0 : Int32)) else (if (p0 >>> ((3 : Int32) &&& 31)) = (10 : Int32) then (if (((((own_sel (p0 &&& (7 : Int32)) (49 : Int32) (49 : Int32) (49 : Int32) (49 : Int32) (49 : Int32) (49 : Int32) (49 : Int32) (49 : Int32)) &&& (255 : Int32)).toUInt32.toUInt16.toUInt32.toInt32).toUInt32.toUInt16.toUInt32.toInt32).toUInt32.toUInt16.toUInt32.toInt32) = (49 : Int32) then (1 : Int32) else (0 : Int32)) else (if (p0 >>> ((3 : Int32) &&& 31)) = (11 : Int32) then (if (((((own_sel (p0 &&& (7 : Int32)) (49 : Int32) (49 : Int32) (49 : Int32) (48 : Int32) (48 : Int32) (48 : Int32) (48 : Int32) (48 : Int32)) &&& (255 : Int32)).toUInt32.toUInt16.toUInt32.toInt32).toUInt32.toUInt16.toUInt32.toInt32).toUInt32.toUInt16.toUInt32.toInt32) = (49 : Int32) then (1 : Int32) else (0 : Int32)) else (if (((((own_sel (p0 &&& (7 : Int32)) (48 : Int32) (48 : Int32) (48 : Int32) (48 : Int32) (48 : Int32) (48 : Int32) (48 : Int32) (48 : Int32)) &&& (255 : Int32)).toUInt32.toUInt16.toUInt32.toInt32).toUInt32.toUInt16.toUInt32.toInt32).toUInt32.toUInt16.toUInt32.toInt32) = (49 : Int32) then (1 : Int32) else (0 : Int32)))))))))))))) else (0 : Int32)))
def own_Q2 (Z : State) (p0 : Int32) (cs : Int32) (sb : Value) (h0 : Heap) (n0 : Nat) (v : Option Value) (h : Heap) (L : List Loc) : Prop := v = some (.int (own_F2 p0)) ∧ Fr n0 L ∧ Keep h0 h [] ∧ True
theorem own_pn_rm2 : plainName "com/example/renkei/renkei/codec/SegmentEndsIsIdUnitPinLaw" = true := by first | (simp [plainName, overriddenIn]; done) | decide +kernel
theorem own_ef_rm2 (m : MethodId) (p0 : Int32) : entryFrame m #[(.int p0)] 2 = mkF m 0 #[.val (.int p0), .unset] [] := by first | (simp [entryFrame, mkF, argsToLocals, Value.category]; done) | rfl
set_option maxRecDepth 65536 in
set_option maxHeartbeats 40000000 in
theorem own_rm2 (l : Launch) (Z : State) (a0 : Array Value) (hw : ∀ d ∈ tables_1, d.before a0 Z = true) (ws : List Jvm.Cond) (p0 : Int32) (cs : Int32) (sb : Value) (h0 : Heap) (n0 : Nat) (Z0 : n0 ≤ h0.size) (S_c : Sta Z h0 "java/lang/String" "COMPACT_STRINGS" "Z" (.int cs)) (S_f : Sta Z h0 "jdk/internal/util/Preconditions" "SIOOBE_FORMATTER" "Ljava/util/function/BiFunction;" sb) (hcs : ¬ (cs = (0 : Int32))) (hsb : sb = .null ∨ ∃ x, sb = .ref x) :
    MetFree l (⟨"com/example/renkei/renkei/codec/SegmentEndsIsIdUnitPinLaw", "ref", "(I)Z"⟩ : MethodName) (head1 (Jvm.Cond.code (⟨"com/example/renkei/renkei/codec/SegmentEndsIsIdUnitPinLaw", "ref", "(I)Z"⟩ : MethodName) method_2_code 2 (some .boolean) :: ws) ({ frames := 4, cells := 11, slots := 196, locals := 53 } : Room)) (fun a U => a = #[(.int p0)] ∧ Z.Warmed39 U.vm ∧ U.heap = h0 ∧ CHv Z consts_1 U.vm h0) (fun _ _ _ _ _ => True) (fun _ U o U' => ∃ v L, o = .returned v ∧ own_Q2 Z p0 cs sb h0 n0 v U'.heap L ∧ CHr Z consts_1 U.vm U.heap U'.vm U'.heap ∧ ReturnedEndW U o U' L ({ frames := 4, cells := 11, slots := 196, locals := 53 } : Room).cells ({ frames := 4, cells := 11, slots := 196, locals := 53 } : Room).slots) := by
  refine MetFree.of_bodySF (plainFor_of_name own_pn_rm2) hisR ?_
  intro p e s m args below meth c s₁ Bd hml0 hP hK
  obtain ⟨rfl, hZ, hh, hCH⟩ := hP
  have CH0 := CHr.refl hCH
  have hx := Bd.exec
  have hby := Bd.bytes
  have hml : c.maxLocals = 2 := hml0
  have hown : s.vm.findClass "com/example/renkei/renkei/codec/SegmentEndsIsIdUnitPinLaw" = some m.cls := findClass_of_methodNamed Bd.named
  have hnm := (name_of_methodNamed Bd.named Bd.method).1
  have X0 : Stand p l e ({ frames := 4, cells := 11, slots := 196, locals := 53 } : Room) s m #[(.int p0)] below meth c s₁ [] 0 0 := Stand.of_body Bd
  have e0 : s₁.heap = h0 := by rw [← hh, Bd.state]; rfl
  have N0 := Fr.nil n0
  show own_End p e below s (own_Q2 Z p0 cs sb h0 n0) ({ frames := 4, cells := 11, slots := 196, locals := 53 } : Room).cells ({ frames := 4, cells := 11, slots := 196, locals := 53 } : Room).slots (s₁.setTop (entryFrame m #[(.int p0)] 2)) (own_EH Z)
  rw [own_ef_rm2]
  refine own_iloadN X0 hx (hb hby own_d2_0) rfl (q := 1) rfl ?_
  by_cases hc1_38 : p0 < (0 : Int32)
  · refine own_ifY X0 hx (hb hby own_d2_1) (tlt hc1_38).1 (q := 11) (by decide) (by decide) ?_
    refine own_iconst X0 hx (hb hby own_d2_11) (z := 0) rfl (q := 12) rfl ?_
    refine own_retNH (s := s) (vm := s.vm) X0 hx own_since0 (Nat.zero_le _) e0 hh hZ (own_EW hw) CH0 (t := .boolean) (by simp) Bd.returns Bd.notSynchronized (by decide) (by decide) (hb hby own_d2_12) ?_
    show own_Q2 Z p0 cs sb h0 n0 _ s₁.heap _
    rw [e0]
    exact ⟨(by rw [show own_F2 p0 = _ from (by simp only [own_F2, if_pos hc1_38] : _ = (0 : Int32))]; rfl), N0, (Keep.refl h0 []), trivial⟩
  · refine own_ifN X0 hx (hb hby own_d2_1) (flt hc1_38).1 (q := 4) rfl ?_
    refine own_iloadN X0 hx (hb hby own_d2_4) rfl (q := 5) rfl ?_
    refine own_sipush X0 hx (hb hby own_d2_5) (z := 128) rfl (q := 8) rfl ?_
    by_cases hc8_40 : p0 < (128 : Int32)
    · refine own_icY X0 hx (hb hby own_d2_8) (tlt hc8_40).1 (q := 13) (by decide) (by decide) ?_
      refine own_bipush X0 hx (hb hby own_d2_13) (z := 16) rfl (q := 15) rfl ?_
      obtain ⟨T41, h41, k41, X41, e41, E41, A41, O41, st41⟩ := newR X0 hx hZ hown (hw _ (List.mem_of_getElem? (i := 8) rfl)) (hw _ (List.mem_of_getElem? (i := 9) rfl)) e0 (g := (mkF m 15 #[.val (.int p0), .unset] [(.int (16 : Int32))])) rfl (hb hby own_d2_15) rfl (by decide) (cap := 16) (by decide) (by decide) (by decide) (by decide)
      obtain ⟨b41, g41⟩ : ∃ z, z = h0.size := ⟨_, rfl⟩
      have g_b41 : n0 ≤ b41 := Nat.le_trans Z0 (Nat.le_of_eq g41.symm)
      have sz_b41 : h0.size ≤ b41 := Nat.le_trans (Keep.refl h0 []).1 (Nat.le_of_eq g41.symm)
      have Z42 := Nat.le_trans Z0 E41.1
      rw [← g41] at A41 st41
      have S_c_43 := S_c.ext E41
      have S_f_44 := S_f.ext E41
      have Kp45 : Keep h0 _ [] := (Keep.refl h0 []).ext E41
      have V_b41 : Arv Z h41 b41 k41 (.object "java/lang/String") (16 : Int32) [.null, .null, .null, .null, .null, .null, .null, .null, .null, .null, .null, .null, .null, .null, .null, .null] .null := (Arv.new A41 (by decide)).pad (pad_rep [] .null 16)
      have CH41 := CH0.trans (CHr.ext E41 CH0.1)
      refine own_back st41 ?_
      show own_End p e below s _ _ _ (T41.setTop (mkF m 18 #[.val (.int p0), .unset] [(.ref b41)])) (own_EH Z)
      refine own_dup X41 hx (hb hby own_d2_18) rfl (q := 19) rfl ?_
      refine own_iconst X41 hx (hb hby own_d2_19) (z := 0) rfl (q := 20) rfl ?_
      obtain ⟨as47, T47, h47, k147, ab47, ak47, X47, e47, E47, hT47, hk47, hZ, hown, Ea47, Fc47, Fv47, Vb47, -, -, hC47, Li47, hne47, st47⟩ := ldcCH (EL := consts_1) (s := s.setVm s.vm) (vm0 := s.vm) X41 hx hZ hown (hw _ (List.mem_of_getElem? (i := 10) rfl)) (own_sat hw) e41 own_since0 (Nat.zero_le _) (own_EW hw) (List.mem_of_getElem? (i := 0) rfl) CH41.1 (vs := [(.int (48 : Int32)), (.int (48 : Int32)), (.int (48 : Int32)), (.int (48 : Int32)), (.int (48 : Int32)), (.int (48 : Int32)), (.int (48 : Int32)), (.int (48 : Int32))]) (z := (8 : Int32)) ⟨by decide, by decide⟩ (by decide) (by decide) (g := (mkF m 20 #[.val (.int p0), .unset] [(.int (0 : Int32)), (.ref b41), (.ref b41)])) rfl (hb hby own_d2_20) (n := 32) (by decide) (by decide) (by decide) (by decide)
      have hS47 : s.Since T47.vm h47.size := own_since0.trans (own_sinceM hT47 hk47) (Nat.le_trans (Nat.zero_le _) E47.1)
      have Z48 := Nat.le_trans Z42 E47.1
      have S_c_49 := S_c_43.ext E47
      have S_f_50 := S_f_44.ext E47
      have V_b41_51 := V_b41.ext E47
      have Kp52 : Keep h0 _ [] := Kp45.ext E47
      have CH47 := CH41.trans hC47
      obtain ⟨cz47, Az47, -⟩ := id V_b41_51
      obtain ⟨ne_b41_as47, ne_b41_ab47⟩ := hne47 _ (Safe.arr hZ.alike Az47 (fun q => by cases q))
      refine own_back st47 ?_
      show own_End p e below s _ _ _ (T47.setTop (mkF m 22 #[.val (.int p0), .unset] [(.ref as47), (.int (0 : Int32)), (.ref b41), (.ref b41)])) (own_EH Z)
      obtain ⟨cl53, Ar53, q53, S53, N53v, H53, G53⟩ := id V_b41_51
      have hin53 : ¬ ((0 : Int32) < 0 ∨ cl53.slots.size ≤ ((0 : Int32)).toNatClampNeg) := inb_of S53 ⟨by decide, by decide⟩
      obtain ⟨T53, h53, X53, e53, W53, st53⟩ := stR X47 hx hZ e47 Ar53 (j := (0 : Int32)) hin53 rfl (Sto.ofV Ar53 q53 O41 (Ins.self Ea47)) (g := (mkF m 22 #[.val (.int p0), .unset] [(.ref as47), (.int (0 : Int32)), (.ref b41), (.ref b41)])) rfl rfl (hb hby own_d2_22)
      have V_b41_53 : Arv Z h53 b41 k41 (.object "java/lang/String") (16 : Int32) [(.ref as47), .null, .null, .null, .null, .null, .null, .null, .null, .null, .null, .null, .null, .null, .null, .null] .null := Arv.set Ar53 q53 S53 N53v H53 G53 rfl W53 0 rfl (Nat.le_of_ble_eq_true rfl)
      have S_c_54 := S_c_49.wr W53
      have S_f_55 := S_f_50.wr W53
      have Ea47_56 := Ea47.wr W53
      have Fc47_57 := Fc47.other W53 (Or.inl (Ne.symm ne_b41_as47))
      have Fv47_58 := Fv47.other W53 (Or.inl (Ne.symm ne_b41_as47))
      have Vb47_59 := Vb47.other W53 (Ne.symm ne_b41_ab47)
      have Kp60 : Keep h0 _ [] := Kp52.wr W53 (Or.inr sz_b41)
      have Z61 := Nat.le_trans Z48 (Keep.of_wr W53).1
      have kZ61 := Nat.le_trans (Nat.le_refl _) (Keep.of_wr W53).1
      have CH53 := CH47.trans (CHr.wr W53 (Safe.arr hZ.alike Ar53 (fun q => by cases q)) CH47.1)
      obtain ⟨L53, X53, N53⟩ := own_gl X53 (Fr.snoc X53 N0 g_b41)
      refine own_back st53 ?_
      show own_End p e below s _ _ _ (T53.setTop (mkF m 23 #[.val (.int p0), .unset] [(.ref b41)])) (own_EH Z)
      refine own_dup X53 hx (hb hby own_d2_23) rfl (q := 24) rfl ?_
      refine own_iconst X53 hx (hb hby own_d2_24) (z := 1) rfl (q := 25) rfl ?_
      refine own_back (ldcAgain (s := s) (vm0 := T47.vm) X53 hx hZ hown (hw _ (List.mem_of_getElem? (i := 10) rfl)) Li47 (g := (mkF m 25 #[.val (.int p0), .unset] [(.int (1 : Int32)), (.ref b41), (.ref b41)])) rfl (hb hby own_d2_25)) ?_
      show own_End p e below s _ _ _ (T53.setTop (mkF m 27 #[.val (.int p0), .unset] [(.ref as47), (.int (1 : Int32)), (.ref b41), (.ref b41)])) (own_EH Z)
      obtain ⟨cl64, Ar64, q64, S64, N64v, H64, G64⟩ := id V_b41_53
      have hin64 : ¬ ((1 : Int32) < 0 ∨ cl64.slots.size ≤ ((1 : Int32)).toNatClampNeg) := inb_of S64 ⟨by decide, by decide⟩
      obtain ⟨T64, h64, X64, e64, W64, st64⟩ := stR X53 hx hZ e53 Ar64 (j := (1 : Int32)) hin64 rfl (Sto.ofV Ar64 q64 O41 (Ins.self Ea47_56)) (g := (mkF m 27 #[.val (.int p0), .unset] [(.ref as47), (.int (1 : Int32)), (.ref b41), (.ref b41)])) rfl rfl (hb hby own_d2_27)
      have V_b41_64 : Arv Z h64 b41 k41 (.object "java/lang/String") (16 : Int32) [(.ref as47), (.ref as47), .null, .null, .null, .null, .null, .null, .null, .null, .null, .null, .null, .null, .null, .null] .null := Arv.set Ar64 q64 S64 N64v H64 G64 rfl W64 1 rfl (Nat.le_of_ble_eq_true rfl)
      have S_c_65 := S_c_54.wr W64
      have S_f_66 := S_f_55.wr W64
      have Ea47_67 := Ea47_56.wr W64
      have Fc47_68 := Fc47_57.other W64 (Or.inl (Ne.symm ne_b41_as47))
      have Fv47_69 := Fv47_58.other W64 (Or.inl (Ne.symm ne_b41_as47))
      have Vb47_70 := Vb47_59.other W64 (Ne.symm ne_b41_ab47)
      have Kp71 : Keep h0 _ [] := Kp60.wr W64 (Or.inr sz_b41)
      have Z72 := Nat.le_trans Z61 (Keep.of_wr W64).1
      have kZ72 := Nat.le_trans kZ61 (Keep.of_wr W64).1
      have CH64 := CH53.trans (CHr.wr W64 (Safe.arr hZ.alike Ar64 (fun q => by cases q)) CH53.1)
      obtain ⟨L64, X64, N64⟩ := own_gl X64 (Fr.snoc X64 N53 g_b41)
      refine own_back st64 ?_
      show own_End p e below s _ _ _ (T64.setTop (mkF m 28 #[.val (.int p0), .unset] [(.ref b41)])) (own_EH Z)
      refine own_dup X64 hx (hb hby own_d2_28) rfl (q := 29) rfl ?_
      refine own_iconst X64 hx (hb hby own_d2_29) (z := 2) rfl (q := 30) rfl ?_
      refine own_back (ldcAgain (s := s) (vm0 := T47.vm) X64 hx hZ hown (hw _ (List.mem_of_getElem? (i := 10) rfl)) Li47 (g := (mkF m 30 #[.val (.int p0), .unset] [(.int (2 : Int32)), (.ref b41), (.ref b41)])) rfl (hb hby own_d2_30)) ?_
      show own_End p e below s _ _ _ (T64.setTop (mkF m 32 #[.val (.int p0), .unset] [(.ref as47), (.int (2 : Int32)), (.ref b41), (.ref b41)])) (own_EH Z)
      obtain ⟨cl75, Ar75, q75, S75, N75v, H75, G75⟩ := id V_b41_64
      have hin75 : ¬ ((2 : Int32) < 0 ∨ cl75.slots.size ≤ ((2 : Int32)).toNatClampNeg) := inb_of S75 ⟨by decide, by decide⟩
      obtain ⟨T75, h75, X75, e75, W75, st75⟩ := stR X64 hx hZ e64 Ar75 (j := (2 : Int32)) hin75 rfl (Sto.ofV Ar75 q75 O41 (Ins.self Ea47_67)) (g := (mkF m 32 #[.val (.int p0), .unset] [(.ref as47), (.int (2 : Int32)), (.ref b41), (.ref b41)])) rfl rfl (hb hby own_d2_32)
      have V_b41_75 : Arv Z h75 b41 k41 (.object "java/lang/String") (16 : Int32) [(.ref as47), (.ref as47), (.ref as47), .null, .null, .null, .null, .null, .null, .null, .null, .null, .null, .null, .null, .null] .null := Arv.set Ar75 q75 S75 N75v H75 G75 rfl W75 2 rfl (Nat.le_of_ble_eq_true rfl)
      have S_c_76 := S_c_65.wr W75
      have S_f_77 := S_f_66.wr W75
      have Ea47_78 := Ea47_67.wr W75
      have Fc47_79 := Fc47_68.other W75 (Or.inl (Ne.symm ne_b41_as47))
      have Fv47_80 := Fv47_69.other W75 (Or.inl (Ne.symm ne_b41_as47))
      have Vb47_81 := Vb47_70.other W75 (Ne.symm ne_b41_ab47)
      have Kp82 : Keep h0 _ [] := Kp71.wr W75 (Or.inr sz_b41)
      have Z83 := Nat.le_trans Z72 (Keep.of_wr W75).1
      have kZ83 := Nat.le_trans kZ72 (Keep.of_wr W75).1
      have CH75 := CH64.trans (CHr.wr W75 (Safe.arr hZ.alike Ar75 (fun q => by cases q)) CH64.1)
      obtain ⟨L75, X75, N75⟩ := own_gl X75 (Fr.snoc X75 N64 g_b41)
      refine own_back st75 ?_
      show own_End p e below s _ _ _ (T75.setTop (mkF m 33 #[.val (.int p0), .unset] [(.ref b41)])) (own_EH Z)
      refine own_dup X75 hx (hb hby own_d2_33) rfl (q := 34) rfl ?_
      refine own_iconst X75 hx (hb hby own_d2_34) (z := 3) rfl (q := 35) rfl ?_
      refine own_back (ldcAgain (s := s) (vm0 := T47.vm) X75 hx hZ hown (hw _ (List.mem_of_getElem? (i := 10) rfl)) Li47 (g := (mkF m 35 #[.val (.int p0), .unset] [(.int (3 : Int32)), (.ref b41), (.ref b41)])) rfl (hb hby own_d2_35)) ?_
      show own_End p e below s _ _ _ (T75.setTop (mkF m 37 #[.val (.int p0), .unset] [(.ref as47), (.int (3 : Int32)), (.ref b41), (.ref b41)])) (own_EH Z)
      obtain ⟨cl86, Ar86, q86, S86, N86v, H86, G86⟩ := id V_b41_75
      have hin86 : ¬ ((3 : Int32) < 0 ∨ cl86.slots.size ≤ ((3 : Int32)).toNatClampNeg) := inb_of S86 ⟨by decide, by decide⟩
      obtain ⟨T86, h86, X86, e86, W86, st86⟩ := stR X75 hx hZ e75 Ar86 (j := (3 : Int32)) hin86 rfl (Sto.ofV Ar86 q86 O41 (Ins.self Ea47_78)) (g := (mkF m 37 #[.val (.int p0), .unset] [(.ref as47), (.int (3 : Int32)), (.ref b41), (.ref b41)])) rfl rfl (hb hby own_d2_37)
      have V_b41_86 : Arv Z h86 b41 k41 (.object "java/lang/String") (16 : Int32) [(.ref as47), (.ref as47), (.ref as47), (.ref as47), .null, .null, .null, .null, .null, .null, .null, .null, .null, .null, .null, .null] .null := Arv.set Ar86 q86 S86 N86v H86 G86 rfl W86 3 rfl (Nat.le_of_ble_eq_true rfl)
      have S_c_87 := S_c_76.wr W86
      have S_f_88 := S_f_77.wr W86
      have Ea47_89 := Ea47_78.wr W86
      have Fc47_90 := Fc47_79.other W86 (Or.inl (Ne.symm ne_b41_as47))
      have Fv47_91 := Fv47_80.other W86 (Or.inl (Ne.symm ne_b41_as47))
      have Vb47_92 := Vb47_81.other W86 (Ne.symm ne_b41_ab47)
      have Kp93 : Keep h0 _ [] := Kp82.wr W86 (Or.inr sz_b41)
      have Z94 := Nat.le_trans Z83 (Keep.of_wr W86).1
      have kZ94 := Nat.le_trans kZ83 (Keep.of_wr W86).1
      have CH86 := CH75.trans (CHr.wr W86 (Safe.arr hZ.alike Ar86 (fun q => by cases q)) CH75.1)
      obtain ⟨L86, X86, N86⟩ := own_gl X86 (Fr.snoc X86 N75 g_b41)
      refine own_back st86 ?_
      show own_End p e below s _ _ _ (T86.setTop (mkF m 38 #[.val (.int p0), .unset] [(.ref b41)])) (own_EH Z)
      refine own_dup X86 hx (hb hby own_d2_38) rfl (q := 39) rfl ?_
      refine own_iconst X86 hx (hb hby own_d2_39) (z := 4) rfl (q := 40) rfl ?_
      refine own_back (ldcAgain (s := s) (vm0 := T47.vm) X86 hx hZ hown (hw _ (List.mem_of_getElem? (i := 10) rfl)) Li47 (g := (mkF m 40 #[.val (.int p0), .unset] [(.int (4 : Int32)), (.ref b41), (.ref b41)])) rfl (hb hby own_d2_40)) ?_
      show own_End p e below s _ _ _ (T86.setTop (mkF m 42 #[.val (.int p0), .unset] [(.ref as47), (.int (4 : Int32)), (.ref b41), (.ref b41)])) (own_EH Z)
      obtain ⟨cl97, Ar97, q97, S97, N97v, H97, G97⟩ := id V_b41_86
      have hin97 : ¬ ((4 : Int32) < 0 ∨ cl97.slots.size ≤ ((4 : Int32)).toNatClampNeg) := inb_of S97 ⟨by decide, by decide⟩
      obtain ⟨T97, h97, X97, e97, W97, st97⟩ := stR X86 hx hZ e86 Ar97 (j := (4 : Int32)) hin97 rfl (Sto.ofV Ar97 q97 O41 (Ins.self Ea47_89)) (g := (mkF m 42 #[.val (.int p0), .unset] [(.ref as47), (.int (4 : Int32)), (.ref b41), (.ref b41)])) rfl rfl (hb hby own_d2_42)
      have V_b41_97 : Arv Z h97 b41 k41 (.object "java/lang/String") (16 : Int32) [(.ref as47), (.ref as47), (.ref as47), (.ref as47), (.ref as47), .null, .null, .null, .null, .null, .null, .null, .null, .null, .null, .null] .null := Arv.set Ar97 q97 S97 N97v H97 G97 rfl W97 4 rfl (Nat.le_of_ble_eq_true rfl)
      have S_c_98 := S_c_87.wr W97
      have S_f_99 := S_f_88.wr W97
      have Ea47_100 := Ea47_89.wr W97
      have Fc47_101 := Fc47_90.other W97 (Or.inl (Ne.symm ne_b41_as47))
      have Fv47_102 := Fv47_91.other W97 (Or.inl (Ne.symm ne_b41_as47))
      have Vb47_103 := Vb47_92.other W97 (Ne.symm ne_b41_ab47)
      have Kp104 : Keep h0 _ [] := Kp93.wr W97 (Or.inr sz_b41)
      have Z105 := Nat.le_trans Z94 (Keep.of_wr W97).1
      have kZ105 := Nat.le_trans kZ94 (Keep.of_wr W97).1
      have CH97 := CH86.trans (CHr.wr W97 (Safe.arr hZ.alike Ar97 (fun q => by cases q)) CH86.1)
      obtain ⟨L97, X97, N97⟩ := own_gl X97 (Fr.snoc X97 N86 g_b41)
      refine own_back st97 ?_
      show own_End p e below s _ _ _ (T97.setTop (mkF m 43 #[.val (.int p0), .unset] [(.ref b41)])) (own_EH Z)
      refine own_dup X97 hx (hb hby own_d2_43) rfl (q := 44) rfl ?_
      refine own_iconst X97 hx (hb hby own_d2_44) (z := 5) rfl (q := 45) rfl ?_
      refine own_back (ldcAgain (s := s) (vm0 := T47.vm) X97 hx hZ hown (hw _ (List.mem_of_getElem? (i := 10) rfl)) Li47 (g := (mkF m 45 #[.val (.int p0), .unset] [(.int (5 : Int32)), (.ref b41), (.ref b41)])) rfl (hb hby own_d2_45)) ?_
      show own_End p e below s _ _ _ (T97.setTop (mkF m 47 #[.val (.int p0), .unset] [(.ref as47), (.int (5 : Int32)), (.ref b41), (.ref b41)])) (own_EH Z)
      obtain ⟨cl108, Ar108, q108, S108, N108v, H108, G108⟩ := id V_b41_97
      have hin108 : ¬ ((5 : Int32) < 0 ∨ cl108.slots.size ≤ ((5 : Int32)).toNatClampNeg) := inb_of S108 ⟨by decide, by decide⟩
      obtain ⟨T108, h108, X108, e108, W108, st108⟩ := stR X97 hx hZ e97 Ar108 (j := (5 : Int32)) hin108 rfl (Sto.ofV Ar108 q108 O41 (Ins.self Ea47_100)) (g := (mkF m 47 #[.val (.int p0), .unset] [(.ref as47), (.int (5 : Int32)), (.ref b41), (.ref b41)])) rfl rfl (hb hby own_d2_47)
      have V_b41_108 : Arv Z h108 b41 k41 (.object "java/lang/String") (16 : Int32) [(.ref as47), (.ref as47), (.ref as47), (.ref as47), (.ref as47), (.ref as47), .null, .null, .null, .null, .null, .null, .null, .null, .null, .null] .null := Arv.set Ar108 q108 S108 N108v H108 G108 rfl W108 5 rfl (Nat.le_of_ble_eq_true rfl)
      have S_c_109 := S_c_98.wr W108
      have S_f_110 := S_f_99.wr W108
      have Ea47_111 := Ea47_100.wr W108
      have Fc47_112 := Fc47_101.other W108 (Or.inl (Ne.symm ne_b41_as47))
      have Fv47_113 := Fv47_102.other W108 (Or.inl (Ne.symm ne_b41_as47))
      have Vb47_114 := Vb47_103.other W108 (Ne.symm ne_b41_ab47)
      have Kp115 : Keep h0 _ [] := Kp104.wr W108 (Or.inr sz_b41)
      have Z116 := Nat.le_trans Z105 (Keep.of_wr W108).1
      have kZ116 := Nat.le_trans kZ105 (Keep.of_wr W108).1
      have CH108 := CH97.trans (CHr.wr W108 (Safe.arr hZ.alike Ar108 (fun q => by cases q)) CH97.1)
      obtain ⟨L108, X108, N108⟩ := own_gl X108 (Fr.snoc X108 N97 g_b41)
      refine own_back st108 ?_
      show own_End p e below s _ _ _ (T108.setTop (mkF m 48 #[.val (.int p0), .unset] [(.ref b41)])) (own_EH Z)
      refine own_dup X108 hx (hb hby own_d2_48) rfl (q := 49) rfl ?_
      refine own_bipush X108 hx (hb hby own_d2_49) (z := 6) rfl (q := 51) rfl ?_
      obtain ⟨as118, T118, h118, k1118, ab118, ak118, X118, e118, E118, hT118, hk118, hZ, hown, Ea118, Fc118, Fv118, Vb118, -, -, hC118, Li118, hne118, st118⟩ := ldcCH (EL := consts_1) (s := s.setVm T47.vm) (vm0 := T47.vm) X108 hx hZ hown (hw _ (List.mem_of_getElem? (i := 19) rfl)) (own_sat hw) e108 own_since0 (Nat.zero_le _) (own_EW hw) (List.mem_of_getElem? (i := 1) rfl) CH108.1 (vs := [(.int (49 : Int32)), (.int (49 : Int32)), (.int (49 : Int32)), (.int (49 : Int32)), (.int (49 : Int32)), (.int (49 : Int32)), (.int (49 : Int32)), (.int (49 : Int32))]) (z := (8 : Int32)) ⟨by decide, by decide⟩ (by decide) (by decide) (g := (mkF m 51 #[.val (.int p0), .unset] [(.int (6 : Int32)), (.ref b41), (.ref b41)])) rfl (hb hby own_d2_51) (n := 32) (by decide) (by decide) (by decide) (by decide)
      have hS118 : s.Since T118.vm h118.size := hS47.trans (own_sinceM hT118 hk118) (Nat.le_trans kZ116 E118.1)
      have L118_9 := Li47.stays hT118.1
      have Z119 := Nat.le_trans Z116 E118.1
      have S_c_120 := S_c_109.ext E118
      have S_f_121 := S_f_110.ext E118
      have V_b41_122 := V_b41_108.ext E118
      have Ea47_123 := Ea47_111.ext E118
      have Fc47_124 := Fc47_112.ext E118
      have Fv47_125 := Fv47_113.ext E118
      have Vb47_126 := Vb47_114.ext E118
      have Kp127 : Keep h0 _ [] := Kp115.ext E118
      have CH118 := CH108.trans hC118
      obtain ⟨cz118, Az118, -⟩ := id V_b41_122
      obtain ⟨ne_b41_as118, ne_b41_ab118⟩ := hne118 _ (Safe.arr hZ.alike Az118 (fun q => by cases q))
      refine own_back st118 ?_
      show own_End p e below s _ _ _ (T118.setTop (mkF m 53 #[.val (.int p0), .unset] [(.ref as118), (.int (6 : Int32)), (.ref b41), (.ref b41)])) (own_EH Z)
      obtain ⟨cl128, Ar128, q128, S128, N128v, H128, G128⟩ := id V_b41_122
      have hin128 : ¬ ((6 : Int32) < 0 ∨ cl128.slots.size ≤ ((6 : Int32)).toNatClampNeg) := inb_of S128 ⟨by decide, by decide⟩
      obtain ⟨T128, h128, X128, e128, W128, st128⟩ := stR X118 hx hZ e118 Ar128 (j := (6 : Int32)) hin128 rfl (Sto.ofV Ar128 q128 O41 (Ins.self Ea118)) (g := (mkF m 53 #[.val (.int p0), .unset] [(.ref as118), (.int (6 : Int32)), (.ref b41), (.ref b41)])) rfl rfl (hb hby own_d2_53)
      have V_b41_128 : Arv Z h128 b41 k41 (.object "java/lang/String") (16 : Int32) [(.ref as47), (.ref as47), (.ref as47), (.ref as47), (.ref as47), (.ref as47), (.ref as118), .null, .null, .null, .null, .null, .null, .null, .null, .null] .null := Arv.set Ar128 q128 S128 N128v H128 G128 rfl W128 6 rfl (Nat.le_of_ble_eq_true rfl)
      have S_c_129 := S_c_120.wr W128
      have S_f_130 := S_f_121.wr W128
      have Ea47_131 := Ea47_123.wr W128
      have Fc47_132 := Fc47_124.other W128 (Or.inl (Ne.symm ne_b41_as47))
      have Fv47_133 := Fv47_125.other W128 (Or.inl (Ne.symm ne_b41_as47))
      have Vb47_134 := Vb47_126.other W128 (Ne.symm ne_b41_ab47)
      have Ea118_135 := Ea118.wr W128
      have Fc118_136 := Fc118.other W128 (Or.inl (Ne.symm ne_b41_as118))
      have Fv118_137 := Fv118.other W128 (Or.inl (Ne.symm ne_b41_as118))
      have Vb118_138 := Vb118.other W128 (Ne.symm ne_b41_ab118)
      have Kp139 : Keep h0 _ [] := Kp127.wr W128 (Or.inr sz_b41)
      have Z140 := Nat.le_trans Z119 (Keep.of_wr W128).1
      have kZ140 := Nat.le_trans (Nat.le_refl _) (Keep.of_wr W128).1
      have CH128 := CH118.trans (CHr.wr W128 (Safe.arr hZ.alike Ar128 (fun q => by cases q)) CH118.1)
      obtain ⟨L128, X128, N128⟩ := own_gl X128 (Fr.snoc X128 N108 g_b41)
      refine own_back st128 ?_
      show own_End p e below s _ _ _ (T128.setTop (mkF m 54 #[.val (.int p0), .unset] [(.ref b41)])) (own_EH Z)
      refine own_dup X128 hx (hb hby own_d2_54) rfl (q := 55) rfl ?_
      refine own_bipush X128 hx (hb hby own_d2_55) (z := 7) rfl (q := 57) rfl ?_
      obtain ⟨as142, T142, h142, k1142, ab142, ak142, X142, e142, E142, hT142, hk142, hZ, hown, Ea142, Fc142, Fv142, Vb142, -, -, hC142, Li142, hne142, st142⟩ := ldcCH (EL := consts_1) (s := s.setVm T118.vm) (vm0 := T118.vm) X128 hx hZ hown (hw _ (List.mem_of_getElem? (i := 20) rfl)) (own_sat hw) e128 own_since0 (Nat.zero_le _) (own_EW hw) (List.mem_of_getElem? (i := 2) rfl) CH128.1 (vs := [(.int (49 : Int32)), (.int (49 : Int32)), (.int (48 : Int32)), (.int (48 : Int32)), (.int (48 : Int32)), (.int (48 : Int32)), (.int (48 : Int32)), (.int (48 : Int32))]) (z := (8 : Int32)) ⟨by decide, by decide⟩ (by decide) (by decide) (g := (mkF m 57 #[.val (.int p0), .unset] [(.int (7 : Int32)), (.ref b41), (.ref b41)])) rfl (hb hby own_d2_57) (n := 32) (by decide) (by decide) (by decide) (by decide)
      have hS142 : s.Since T142.vm h142.size := hS118.trans (own_sinceM hT142 hk142) (Nat.le_trans kZ140 E142.1)
      have L142_9 := L118_9.stays hT142.1
      have L142_11 := Li118.stays hT142.1
      have Z143 := Nat.le_trans Z140 E142.1
      have S_c_144 := S_c_129.ext E142
      have S_f_145 := S_f_130.ext E142
      have V_b41_146 := V_b41_128.ext E142
      have Ea47_147 := Ea47_131.ext E142
      have Fc47_148 := Fc47_132.ext E142
      have Fv47_149 := Fv47_133.ext E142
      have Vb47_150 := Vb47_134.ext E142
      have Ea118_151 := Ea118_135.ext E142
      have Fc118_152 := Fc118_136.ext E142
      have Fv118_153 := Fv118_137.ext E142
      have Vb118_154 := Vb118_138.ext E142
      have Kp155 : Keep h0 _ [] := Kp139.ext E142
      have CH142 := CH128.trans hC142
      obtain ⟨cz142, Az142, -⟩ := id V_b41_146
      obtain ⟨ne_b41_as142, ne_b41_ab142⟩ := hne142 _ (Safe.arr hZ.alike Az142 (fun q => by cases q))
      refine own_back st142 ?_
      show own_End p e below s _ _ _ (T142.setTop (mkF m 59 #[.val (.int p0), .unset] [(.ref as142), (.int (7 : Int32)), (.ref b41), (.ref b41)])) (own_EH Z)
      obtain ⟨cl156, Ar156, q156, S156, N156v, H156, G156⟩ := id V_b41_146
      have hin156 : ¬ ((7 : Int32) < 0 ∨ cl156.slots.size ≤ ((7 : Int32)).toNatClampNeg) := inb_of S156 ⟨by decide, by decide⟩
      obtain ⟨T156, h156, X156, e156, W156, st156⟩ := stR X142 hx hZ e142 Ar156 (j := (7 : Int32)) hin156 rfl (Sto.ofV Ar156 q156 O41 (Ins.self Ea142)) (g := (mkF m 59 #[.val (.int p0), .unset] [(.ref as142), (.int (7 : Int32)), (.ref b41), (.ref b41)])) rfl rfl (hb hby own_d2_59)
      have V_b41_156 : Arv Z h156 b41 k41 (.object "java/lang/String") (16 : Int32) [(.ref as47), (.ref as47), (.ref as47), (.ref as47), (.ref as47), (.ref as47), (.ref as118), (.ref as142), .null, .null, .null, .null, .null, .null, .null, .null] .null := Arv.set Ar156 q156 S156 N156v H156 G156 rfl W156 7 rfl (Nat.le_of_ble_eq_true rfl)
      have S_c_157 := S_c_144.wr W156
      have S_f_158 := S_f_145.wr W156
      have Ea47_159 := Ea47_147.wr W156
      have Fc47_160 := Fc47_148.other W156 (Or.inl (Ne.symm ne_b41_as47))
      have Fv47_161 := Fv47_149.other W156 (Or.inl (Ne.symm ne_b41_as47))
      have Vb47_162 := Vb47_150.other W156 (Ne.symm ne_b41_ab47)
      have Ea118_163 := Ea118_151.wr W156
      have Fc118_164 := Fc118_152.other W156 (Or.inl (Ne.symm ne_b41_as118))
      have Fv118_165 := Fv118_153.other W156 (Or.inl (Ne.symm ne_b41_as118))
      have Vb118_166 := Vb118_154.other W156 (Ne.symm ne_b41_ab118)
      have Ea142_167 := Ea142.wr W156
      have Fc142_168 := Fc142.other W156 (Or.inl (Ne.symm ne_b41_as142))
      have Fv142_169 := Fv142.other W156 (Or.inl (Ne.symm ne_b41_as142))
      have Vb142_170 := Vb142.other W156 (Ne.symm ne_b41_ab142)
      have Kp171 : Keep h0 _ [] := Kp155.wr W156 (Or.inr sz_b41)
      have Z172 := Nat.le_trans Z143 (Keep.of_wr W156).1
      have kZ172 := Nat.le_trans (Nat.le_refl _) (Keep.of_wr W156).1
      have CH156 := CH142.trans (CHr.wr W156 (Safe.arr hZ.alike Ar156 (fun q => by cases q)) CH142.1)
      obtain ⟨L156, X156, N156⟩ := own_gl X156 (Fr.snoc X156 N128 g_b41)
      refine own_back st156 ?_
      show own_End p e below s _ _ _ (T156.setTop (mkF m 60 #[.val (.int p0), .unset] [(.ref b41)])) (own_EH Z)
      refine own_dup X156 hx (hb hby own_d2_60) rfl (q := 61) rfl ?_
      refine own_bipush X156 hx (hb hby own_d2_61) (z := 8) rfl (q := 63) rfl ?_
      obtain ⟨as174, T174, h174, k1174, ab174, ak174, X174, e174, E174, hT174, hk174, hZ, hown, Ea174, Fc174, Fv174, Vb174, -, -, hC174, Li174, hne174, st174⟩ := ldcCH (EL := consts_1) (s := s.setVm T142.vm) (vm0 := T142.vm) X156 hx hZ hown (hw _ (List.mem_of_getElem? (i := 21) rfl)) (own_sat hw) e156 own_since0 (Nat.zero_le _) (own_EW hw) (List.mem_of_getElem? (i := 3) rfl) CH156.1 (vs := [(.int (48 : Int32)), (.int (49 : Int32)), (.int (49 : Int32)), (.int (49 : Int32)), (.int (49 : Int32)), (.int (49 : Int32)), (.int (49 : Int32)), (.int (49 : Int32))]) (z := (8 : Int32)) ⟨by decide, by decide⟩ (by decide) (by decide) (g := (mkF m 63 #[.val (.int p0), .unset] [(.int (8 : Int32)), (.ref b41), (.ref b41)])) rfl (hb hby own_d2_63) (n := 32) (by decide) (by decide) (by decide) (by decide)
      have hS174 : s.Since T174.vm h174.size := hS142.trans (own_sinceM hT174 hk174) (Nat.le_trans kZ172 E174.1)
      have L174_9 := L142_9.stays hT174.1
      have L174_11 := L142_11.stays hT174.1
      have L174_13 := Li142.stays hT174.1
      have Z175 := Nat.le_trans Z172 E174.1
      have S_c_176 := S_c_157.ext E174
      have S_f_177 := S_f_158.ext E174
      have V_b41_178 := V_b41_156.ext E174
      have Ea47_179 := Ea47_159.ext E174
      have Fc47_180 := Fc47_160.ext E174
      have Fv47_181 := Fv47_161.ext E174
      have Vb47_182 := Vb47_162.ext E174
      have Ea118_183 := Ea118_163.ext E174
      have Fc118_184 := Fc118_164.ext E174
      have Fv118_185 := Fv118_165.ext E174
      have Vb118_186 := Vb118_166.ext E174
      have Ea142_187 := Ea142_167.ext E174
      have Fc142_188 := Fc142_168.ext E174
      have Fv142_189 := Fv142_169.ext E174
      have Vb142_190 := Vb142_170.ext E174
      have Kp191 : Keep h0 _ [] := Kp171.ext E174
      have CH174 := CH156.trans hC174
      obtain ⟨cz174, Az174, -⟩ := id V_b41_178
      obtain ⟨ne_b41_as174, ne_b41_ab174⟩ := hne174 _ (Safe.arr hZ.alike Az174 (fun q => by cases q))
      refine own_back st174 ?_
      show own_End p e below s _ _ _ (T174.setTop (mkF m 65 #[.val (.int p0), .unset] [(.ref as174), (.int (8 : Int32)), (.ref b41), (.ref b41)])) (own_EH Z)
      obtain ⟨cl192, Ar192, q192, S192, N192v, H192, G192⟩ := id V_b41_178
      have hin192 : ¬ ((8 : Int32) < 0 ∨ cl192.slots.size ≤ ((8 : Int32)).toNatClampNeg) := inb_of S192 ⟨by decide, by decide⟩
      obtain ⟨T192, h192, X192, e192, W192, st192⟩ := stR X174 hx hZ e174 Ar192 (j := (8 : Int32)) hin192 rfl (Sto.ofV Ar192 q192 O41 (Ins.self Ea174)) (g := (mkF m 65 #[.val (.int p0), .unset] [(.ref as174), (.int (8 : Int32)), (.ref b41), (.ref b41)])) rfl rfl (hb hby own_d2_65)
      have V_b41_192 : Arv Z h192 b41 k41 (.object "java/lang/String") (16 : Int32) [(.ref as47), (.ref as47), (.ref as47), (.ref as47), (.ref as47), (.ref as47), (.ref as118), (.ref as142), (.ref as174), .null, .null, .null, .null, .null, .null, .null] .null := Arv.set Ar192 q192 S192 N192v H192 G192 rfl W192 8 rfl (Nat.le_of_ble_eq_true rfl)
      have S_c_193 := S_c_176.wr W192
      have S_f_194 := S_f_177.wr W192
      have Ea47_195 := Ea47_179.wr W192
      have Fc47_196 := Fc47_180.other W192 (Or.inl (Ne.symm ne_b41_as47))
      have Fv47_197 := Fv47_181.other W192 (Or.inl (Ne.symm ne_b41_as47))
      have Vb47_198 := Vb47_182.other W192 (Ne.symm ne_b41_ab47)
      have Ea118_199 := Ea118_183.wr W192
      have Fc118_200 := Fc118_184.other W192 (Or.inl (Ne.symm ne_b41_as118))
      have Fv118_201 := Fv118_185.other W192 (Or.inl (Ne.symm ne_b41_as118))
      have Vb118_202 := Vb118_186.other W192 (Ne.symm ne_b41_ab118)
      have Ea142_203 := Ea142_187.wr W192
      have Fc142_204 := Fc142_188.other W192 (Or.inl (Ne.symm ne_b41_as142))
      have Fv142_205 := Fv142_189.other W192 (Or.inl (Ne.symm ne_b41_as142))
      have Vb142_206 := Vb142_190.other W192 (Ne.symm ne_b41_ab142)
      have Ea174_207 := Ea174.wr W192
      have Fc174_208 := Fc174.other W192 (Or.inl (Ne.symm ne_b41_as174))
      have Fv174_209 := Fv174.other W192 (Or.inl (Ne.symm ne_b41_as174))
      have Vb174_210 := Vb174.other W192 (Ne.symm ne_b41_ab174)
      have Kp211 : Keep h0 _ [] := Kp191.wr W192 (Or.inr sz_b41)
      have Z212 := Nat.le_trans Z175 (Keep.of_wr W192).1
      have kZ212 := Nat.le_trans (Nat.le_refl _) (Keep.of_wr W192).1
      have CH192 := CH174.trans (CHr.wr W192 (Safe.arr hZ.alike Ar192 (fun q => by cases q)) CH174.1)
      obtain ⟨L192, X192, N192⟩ := own_gl X192 (Fr.snoc X192 N156 g_b41)
      refine own_back st192 ?_
      show own_End p e below s _ _ _ (T192.setTop (mkF m 66 #[.val (.int p0), .unset] [(.ref b41)])) (own_EH Z)
      refine own_dup X192 hx (hb hby own_d2_66) rfl (q := 67) rfl ?_
      refine own_bipush X192 hx (hb hby own_d2_67) (z := 9) rfl (q := 69) rfl ?_
      refine own_back (ldcAgain (s := s) (vm0 := T174.vm) X192 hx hZ hown (hw _ (List.mem_of_getElem? (i := 19) rfl)) L174_11 (g := (mkF m 69 #[.val (.int p0), .unset] [(.int (9 : Int32)), (.ref b41), (.ref b41)])) rfl (hb hby own_d2_69)) ?_
      show own_End p e below s _ _ _ (T192.setTop (mkF m 71 #[.val (.int p0), .unset] [(.ref as118), (.int (9 : Int32)), (.ref b41), (.ref b41)])) (own_EH Z)
      obtain ⟨cl215, Ar215, q215, S215, N215v, H215, G215⟩ := id V_b41_192
      have hin215 : ¬ ((9 : Int32) < 0 ∨ cl215.slots.size ≤ ((9 : Int32)).toNatClampNeg) := inb_of S215 ⟨by decide, by decide⟩
      obtain ⟨T215, h215, X215, e215, W215, st215⟩ := stR X192 hx hZ e192 Ar215 (j := (9 : Int32)) hin215 rfl (Sto.ofV Ar215 q215 O41 (Ins.self Ea118_199)) (g := (mkF m 71 #[.val (.int p0), .unset] [(.ref as118), (.int (9 : Int32)), (.ref b41), (.ref b41)])) rfl rfl (hb hby own_d2_71)
      have V_b41_215 : Arv Z h215 b41 k41 (.object "java/lang/String") (16 : Int32) [(.ref as47), (.ref as47), (.ref as47), (.ref as47), (.ref as47), (.ref as47), (.ref as118), (.ref as142), (.ref as174), (.ref as118), .null, .null, .null, .null, .null, .null] .null := Arv.set Ar215 q215 S215 N215v H215 G215 rfl W215 9 rfl (Nat.le_of_ble_eq_true rfl)
      have S_c_216 := S_c_193.wr W215
      have S_f_217 := S_f_194.wr W215
      have Ea47_218 := Ea47_195.wr W215
      have Fc47_219 := Fc47_196.other W215 (Or.inl (Ne.symm ne_b41_as47))
      have Fv47_220 := Fv47_197.other W215 (Or.inl (Ne.symm ne_b41_as47))
      have Vb47_221 := Vb47_198.other W215 (Ne.symm ne_b41_ab47)
      have Ea118_222 := Ea118_199.wr W215
      have Fc118_223 := Fc118_200.other W215 (Or.inl (Ne.symm ne_b41_as118))
      have Fv118_224 := Fv118_201.other W215 (Or.inl (Ne.symm ne_b41_as118))
      have Vb118_225 := Vb118_202.other W215 (Ne.symm ne_b41_ab118)
      have Ea142_226 := Ea142_203.wr W215
      have Fc142_227 := Fc142_204.other W215 (Or.inl (Ne.symm ne_b41_as142))
      have Fv142_228 := Fv142_205.other W215 (Or.inl (Ne.symm ne_b41_as142))
      have Vb142_229 := Vb142_206.other W215 (Ne.symm ne_b41_ab142)
      have Ea174_230 := Ea174_207.wr W215
      have Fc174_231 := Fc174_208.other W215 (Or.inl (Ne.symm ne_b41_as174))
      have Fv174_232 := Fv174_209.other W215 (Or.inl (Ne.symm ne_b41_as174))
      have Vb174_233 := Vb174_210.other W215 (Ne.symm ne_b41_ab174)
      have Kp234 : Keep h0 _ [] := Kp211.wr W215 (Or.inr sz_b41)
      have Z235 := Nat.le_trans Z212 (Keep.of_wr W215).1
      have kZ235 := Nat.le_trans kZ212 (Keep.of_wr W215).1
      have CH215 := CH192.trans (CHr.wr W215 (Safe.arr hZ.alike Ar215 (fun q => by cases q)) CH192.1)
      obtain ⟨L215, X215, N215⟩ := own_gl X215 (Fr.snoc X215 N192 g_b41)
      refine own_back st215 ?_
      show own_End p e below s _ _ _ (T215.setTop (mkF m 72 #[.val (.int p0), .unset] [(.ref b41)])) (own_EH Z)
      refine own_dup X215 hx (hb hby own_d2_72) rfl (q := 73) rfl ?_
      refine own_bipush X215 hx (hb hby own_d2_73) (z := 10) rfl (q := 75) rfl ?_
      refine own_back (ldcAgain (s := s) (vm0 := T174.vm) X215 hx hZ hown (hw _ (List.mem_of_getElem? (i := 19) rfl)) L174_11 (g := (mkF m 75 #[.val (.int p0), .unset] [(.int (10 : Int32)), (.ref b41), (.ref b41)])) rfl (hb hby own_d2_75)) ?_
      show own_End p e below s _ _ _ (T215.setTop (mkF m 77 #[.val (.int p0), .unset] [(.ref as118), (.int (10 : Int32)), (.ref b41), (.ref b41)])) (own_EH Z)
      obtain ⟨cl238, Ar238, q238, S238, N238v, H238, G238⟩ := id V_b41_215
      have hin238 : ¬ ((10 : Int32) < 0 ∨ cl238.slots.size ≤ ((10 : Int32)).toNatClampNeg) := inb_of S238 ⟨by decide, by decide⟩
      obtain ⟨T238, h238, X238, e238, W238, st238⟩ := stR X215 hx hZ e215 Ar238 (j := (10 : Int32)) hin238 rfl (Sto.ofV Ar238 q238 O41 (Ins.self Ea118_222)) (g := (mkF m 77 #[.val (.int p0), .unset] [(.ref as118), (.int (10 : Int32)), (.ref b41), (.ref b41)])) rfl rfl (hb hby own_d2_77)
      have V_b41_238 : Arv Z h238 b41 k41 (.object "java/lang/String") (16 : Int32) [(.ref as47), (.ref as47), (.ref as47), (.ref as47), (.ref as47), (.ref as47), (.ref as118), (.ref as142), (.ref as174), (.ref as118), (.ref as118), .null, .null, .null, .null, .null] .null := Arv.set Ar238 q238 S238 N238v H238 G238 rfl W238 10 rfl (Nat.le_of_ble_eq_true rfl)
      have S_c_239 := S_c_216.wr W238
      have S_f_240 := S_f_217.wr W238
      have Ea47_241 := Ea47_218.wr W238
      have Fc47_242 := Fc47_219.other W238 (Or.inl (Ne.symm ne_b41_as47))
      have Fv47_243 := Fv47_220.other W238 (Or.inl (Ne.symm ne_b41_as47))
      have Vb47_244 := Vb47_221.other W238 (Ne.symm ne_b41_ab47)
      have Ea118_245 := Ea118_222.wr W238
      have Fc118_246 := Fc118_223.other W238 (Or.inl (Ne.symm ne_b41_as118))
      have Fv118_247 := Fv118_224.other W238 (Or.inl (Ne.symm ne_b41_as118))
      have Vb118_248 := Vb118_225.other W238 (Ne.symm ne_b41_ab118)
      have Ea142_249 := Ea142_226.wr W238
      have Fc142_250 := Fc142_227.other W238 (Or.inl (Ne.symm ne_b41_as142))
      have Fv142_251 := Fv142_228.other W238 (Or.inl (Ne.symm ne_b41_as142))
      have Vb142_252 := Vb142_229.other W238 (Ne.symm ne_b41_ab142)
      have Ea174_253 := Ea174_230.wr W238
      have Fc174_254 := Fc174_231.other W238 (Or.inl (Ne.symm ne_b41_as174))
      have Fv174_255 := Fv174_232.other W238 (Or.inl (Ne.symm ne_b41_as174))
      have Vb174_256 := Vb174_233.other W238 (Ne.symm ne_b41_ab174)
      have Kp257 : Keep h0 _ [] := Kp234.wr W238 (Or.inr sz_b41)
      have Z258 := Nat.le_trans Z235 (Keep.of_wr W238).1
      have kZ258 := Nat.le_trans kZ235 (Keep.of_wr W238).1
      have CH238 := CH215.trans (CHr.wr W238 (Safe.arr hZ.alike Ar238 (fun q => by cases q)) CH215.1)
      obtain ⟨L238, X238, N238⟩ := own_gl X238 (Fr.snoc X238 N215 g_b41)
      refine own_back st238 ?_
      show own_End p e below s _ _ _ (T238.setTop (mkF m 78 #[.val (.int p0), .unset] [(.ref b41)])) (own_EH Z)
      refine own_dup X238 hx (hb hby own_d2_78) rfl (q := 79) rfl ?_
      refine own_bipush X238 hx (hb hby own_d2_79) (z := 11) rfl (q := 81) rfl ?_
      obtain ⟨as260, T260, h260, k1260, ab260, ak260, X260, e260, E260, hT260, hk260, hZ, hown, Ea260, Fc260, Fv260, Vb260, -, -, hC260, Li260, hne260, st260⟩ := ldcCH (EL := consts_1) (s := s.setVm T174.vm) (vm0 := T174.vm) X238 hx hZ hown (hw _ (List.mem_of_getElem? (i := 22) rfl)) (own_sat hw) e238 own_since0 (Nat.zero_le _) (own_EW hw) (List.mem_of_getElem? (i := 4) rfl) CH238.1 (vs := [(.int (49 : Int32)), (.int (49 : Int32)), (.int (49 : Int32)), (.int (48 : Int32)), (.int (48 : Int32)), (.int (48 : Int32)), (.int (48 : Int32)), (.int (48 : Int32))]) (z := (8 : Int32)) ⟨by decide, by decide⟩ (by decide) (by decide) (g := (mkF m 81 #[.val (.int p0), .unset] [(.int (11 : Int32)), (.ref b41), (.ref b41)])) rfl (hb hby own_d2_81) (n := 32) (by decide) (by decide) (by decide) (by decide)
      have hS260 : s.Since T260.vm h260.size := hS174.trans (own_sinceM hT260 hk260) (Nat.le_trans kZ258 E260.1)
      have L260_9 := L174_9.stays hT260.1
      have L260_11 := L174_11.stays hT260.1
      have L260_13 := L174_13.stays hT260.1
      have L260_15 := Li174.stays hT260.1
      have Z261 := Nat.le_trans Z258 E260.1
      have S_c_262 := S_c_239.ext E260
      have S_f_263 := S_f_240.ext E260
      have V_b41_264 := V_b41_238.ext E260
      have Ea47_265 := Ea47_241.ext E260
      have Fc47_266 := Fc47_242.ext E260
      have Fv47_267 := Fv47_243.ext E260
      have Vb47_268 := Vb47_244.ext E260
      have Ea118_269 := Ea118_245.ext E260
      have Fc118_270 := Fc118_246.ext E260
      have Fv118_271 := Fv118_247.ext E260
      have Vb118_272 := Vb118_248.ext E260
      have Ea142_273 := Ea142_249.ext E260
      have Fc142_274 := Fc142_250.ext E260
      have Fv142_275 := Fv142_251.ext E260
      have Vb142_276 := Vb142_252.ext E260
      have Ea174_277 := Ea174_253.ext E260
      have Fc174_278 := Fc174_254.ext E260
      have Fv174_279 := Fv174_255.ext E260
      have Vb174_280 := Vb174_256.ext E260
      have Kp281 : Keep h0 _ [] := Kp257.ext E260
      have CH260 := CH238.trans hC260
      obtain ⟨cz260, Az260, -⟩ := id V_b41_264
      obtain ⟨ne_b41_as260, ne_b41_ab260⟩ := hne260 _ (Safe.arr hZ.alike Az260 (fun q => by cases q))
      refine own_back st260 ?_
      show own_End p e below s _ _ _ (T260.setTop (mkF m 83 #[.val (.int p0), .unset] [(.ref as260), (.int (11 : Int32)), (.ref b41), (.ref b41)])) (own_EH Z)
      obtain ⟨cl282, Ar282, q282, S282, N282v, H282, G282⟩ := id V_b41_264
      have hin282 : ¬ ((11 : Int32) < 0 ∨ cl282.slots.size ≤ ((11 : Int32)).toNatClampNeg) := inb_of S282 ⟨by decide, by decide⟩
      obtain ⟨T282, h282, X282, e282, W282, st282⟩ := stR X260 hx hZ e260 Ar282 (j := (11 : Int32)) hin282 rfl (Sto.ofV Ar282 q282 O41 (Ins.self Ea260)) (g := (mkF m 83 #[.val (.int p0), .unset] [(.ref as260), (.int (11 : Int32)), (.ref b41), (.ref b41)])) rfl rfl (hb hby own_d2_83)
      have V_b41_282 : Arv Z h282 b41 k41 (.object "java/lang/String") (16 : Int32) [(.ref as47), (.ref as47), (.ref as47), (.ref as47), (.ref as47), (.ref as47), (.ref as118), (.ref as142), (.ref as174), (.ref as118), (.ref as118), (.ref as260), .null, .null, .null, .null] .null := Arv.set Ar282 q282 S282 N282v H282 G282 rfl W282 11 rfl (Nat.le_of_ble_eq_true rfl)
      have S_c_283 := S_c_262.wr W282
      have S_f_284 := S_f_263.wr W282
      have Ea47_285 := Ea47_265.wr W282
      have Fc47_286 := Fc47_266.other W282 (Or.inl (Ne.symm ne_b41_as47))
      have Fv47_287 := Fv47_267.other W282 (Or.inl (Ne.symm ne_b41_as47))
      have Vb47_288 := Vb47_268.other W282 (Ne.symm ne_b41_ab47)
      have Ea118_289 := Ea118_269.wr W282
      have Fc118_290 := Fc118_270.other W282 (Or.inl (Ne.symm ne_b41_as118))
      have Fv118_291 := Fv118_271.other W282 (Or.inl (Ne.symm ne_b41_as118))
      have Vb118_292 := Vb118_272.other W282 (Ne.symm ne_b41_ab118)
      have Ea142_293 := Ea142_273.wr W282
      have Fc142_294 := Fc142_274.other W282 (Or.inl (Ne.symm ne_b41_as142))
      have Fv142_295 := Fv142_275.other W282 (Or.inl (Ne.symm ne_b41_as142))
      have Vb142_296 := Vb142_276.other W282 (Ne.symm ne_b41_ab142)
      have Ea174_297 := Ea174_277.wr W282
      have Fc174_298 := Fc174_278.other W282 (Or.inl (Ne.symm ne_b41_as174))
      have Fv174_299 := Fv174_279.other W282 (Or.inl (Ne.symm ne_b41_as174))
      have Vb174_300 := Vb174_280.other W282 (Ne.symm ne_b41_ab174)
      have Ea260_301 := Ea260.wr W282
      have Fc260_302 := Fc260.other W282 (Or.inl (Ne.symm ne_b41_as260))
      have Fv260_303 := Fv260.other W282 (Or.inl (Ne.symm ne_b41_as260))
      have Vb260_304 := Vb260.other W282 (Ne.symm ne_b41_ab260)
      have Kp305 : Keep h0 _ [] := Kp281.wr W282 (Or.inr sz_b41)
      have Z306 := Nat.le_trans Z261 (Keep.of_wr W282).1
      have kZ306 := Nat.le_trans (Nat.le_refl _) (Keep.of_wr W282).1
      have CH282 := CH260.trans (CHr.wr W282 (Safe.arr hZ.alike Ar282 (fun q => by cases q)) CH260.1)
      obtain ⟨L282, X282, N282⟩ := own_gl X282 (Fr.snoc X282 N238 g_b41)
      refine own_back st282 ?_
      show own_End p e below s _ _ _ (T282.setTop (mkF m 84 #[.val (.int p0), .unset] [(.ref b41)])) (own_EH Z)
      refine own_dup X282 hx (hb hby own_d2_84) rfl (q := 85) rfl ?_
      refine own_bipush X282 hx (hb hby own_d2_85) (z := 12) rfl (q := 87) rfl ?_
      refine own_back (ldcAgain (s := s) (vm0 := T260.vm) X282 hx hZ hown (hw _ (List.mem_of_getElem? (i := 10) rfl)) L260_9 (g := (mkF m 87 #[.val (.int p0), .unset] [(.int (12 : Int32)), (.ref b41), (.ref b41)])) rfl (hb hby own_d2_87)) ?_
      show own_End p e below s _ _ _ (T282.setTop (mkF m 89 #[.val (.int p0), .unset] [(.ref as47), (.int (12 : Int32)), (.ref b41), (.ref b41)])) (own_EH Z)
      obtain ⟨cl309, Ar309, q309, S309, N309v, H309, G309⟩ := id V_b41_282
      have hin309 : ¬ ((12 : Int32) < 0 ∨ cl309.slots.size ≤ ((12 : Int32)).toNatClampNeg) := inb_of S309 ⟨by decide, by decide⟩
      obtain ⟨T309, h309, X309, e309, W309, st309⟩ := stR X282 hx hZ e282 Ar309 (j := (12 : Int32)) hin309 rfl (Sto.ofV Ar309 q309 O41 (Ins.self Ea47_285)) (g := (mkF m 89 #[.val (.int p0), .unset] [(.ref as47), (.int (12 : Int32)), (.ref b41), (.ref b41)])) rfl rfl (hb hby own_d2_89)
      have V_b41_309 : Arv Z h309 b41 k41 (.object "java/lang/String") (16 : Int32) [(.ref as47), (.ref as47), (.ref as47), (.ref as47), (.ref as47), (.ref as47), (.ref as118), (.ref as142), (.ref as174), (.ref as118), (.ref as118), (.ref as260), (.ref as47), .null, .null, .null] .null := Arv.set Ar309 q309 S309 N309v H309 G309 rfl W309 12 rfl (Nat.le_of_ble_eq_true rfl)
      have S_c_310 := S_c_283.wr W309
      have S_f_311 := S_f_284.wr W309
      have Ea47_312 := Ea47_285.wr W309
      have Fc47_313 := Fc47_286.other W309 (Or.inl (Ne.symm ne_b41_as47))
      have Fv47_314 := Fv47_287.other W309 (Or.inl (Ne.symm ne_b41_as47))
      have Vb47_315 := Vb47_288.other W309 (Ne.symm ne_b41_ab47)
      have Ea118_316 := Ea118_289.wr W309
      have Fc118_317 := Fc118_290.other W309 (Or.inl (Ne.symm ne_b41_as118))
      have Fv118_318 := Fv118_291.other W309 (Or.inl (Ne.symm ne_b41_as118))
      have Vb118_319 := Vb118_292.other W309 (Ne.symm ne_b41_ab118)
      have Ea142_320 := Ea142_293.wr W309
      have Fc142_321 := Fc142_294.other W309 (Or.inl (Ne.symm ne_b41_as142))
      have Fv142_322 := Fv142_295.other W309 (Or.inl (Ne.symm ne_b41_as142))
      have Vb142_323 := Vb142_296.other W309 (Ne.symm ne_b41_ab142)
      have Ea174_324 := Ea174_297.wr W309
      have Fc174_325 := Fc174_298.other W309 (Or.inl (Ne.symm ne_b41_as174))
      have Fv174_326 := Fv174_299.other W309 (Or.inl (Ne.symm ne_b41_as174))
      have Vb174_327 := Vb174_300.other W309 (Ne.symm ne_b41_ab174)
      have Ea260_328 := Ea260_301.wr W309
      have Fc260_329 := Fc260_302.other W309 (Or.inl (Ne.symm ne_b41_as260))
      have Fv260_330 := Fv260_303.other W309 (Or.inl (Ne.symm ne_b41_as260))
      have Vb260_331 := Vb260_304.other W309 (Ne.symm ne_b41_ab260)
      have Kp332 : Keep h0 _ [] := Kp305.wr W309 (Or.inr sz_b41)
      have Z333 := Nat.le_trans Z306 (Keep.of_wr W309).1
      have kZ333 := Nat.le_trans kZ306 (Keep.of_wr W309).1
      have CH309 := CH282.trans (CHr.wr W309 (Safe.arr hZ.alike Ar309 (fun q => by cases q)) CH282.1)
      obtain ⟨L309, X309, N309⟩ := own_gl X309 (Fr.snoc X309 N282 g_b41)
      refine own_back st309 ?_
      show own_End p e below s _ _ _ (T309.setTop (mkF m 90 #[.val (.int p0), .unset] [(.ref b41)])) (own_EH Z)
      refine own_dup X309 hx (hb hby own_d2_90) rfl (q := 91) rfl ?_
      refine own_bipush X309 hx (hb hby own_d2_91) (z := 13) rfl (q := 93) rfl ?_
      refine own_back (ldcAgain (s := s) (vm0 := T260.vm) X309 hx hZ hown (hw _ (List.mem_of_getElem? (i := 10) rfl)) L260_9 (g := (mkF m 93 #[.val (.int p0), .unset] [(.int (13 : Int32)), (.ref b41), (.ref b41)])) rfl (hb hby own_d2_93)) ?_
      show own_End p e below s _ _ _ (T309.setTop (mkF m 95 #[.val (.int p0), .unset] [(.ref as47), (.int (13 : Int32)), (.ref b41), (.ref b41)])) (own_EH Z)
      obtain ⟨cl336, Ar336, q336, S336, N336v, H336, G336⟩ := id V_b41_309
      have hin336 : ¬ ((13 : Int32) < 0 ∨ cl336.slots.size ≤ ((13 : Int32)).toNatClampNeg) := inb_of S336 ⟨by decide, by decide⟩
      obtain ⟨T336, h336, X336, e336, W336, st336⟩ := stR X309 hx hZ e309 Ar336 (j := (13 : Int32)) hin336 rfl (Sto.ofV Ar336 q336 O41 (Ins.self Ea47_312)) (g := (mkF m 95 #[.val (.int p0), .unset] [(.ref as47), (.int (13 : Int32)), (.ref b41), (.ref b41)])) rfl rfl (hb hby own_d2_95)
      have V_b41_336 : Arv Z h336 b41 k41 (.object "java/lang/String") (16 : Int32) [(.ref as47), (.ref as47), (.ref as47), (.ref as47), (.ref as47), (.ref as47), (.ref as118), (.ref as142), (.ref as174), (.ref as118), (.ref as118), (.ref as260), (.ref as47), (.ref as47), .null, .null] .null := Arv.set Ar336 q336 S336 N336v H336 G336 rfl W336 13 rfl (Nat.le_of_ble_eq_true rfl)
      have S_c_337 := S_c_310.wr W336
      have S_f_338 := S_f_311.wr W336
      have Ea47_339 := Ea47_312.wr W336
      have Fc47_340 := Fc47_313.other W336 (Or.inl (Ne.symm ne_b41_as47))
      have Fv47_341 := Fv47_314.other W336 (Or.inl (Ne.symm ne_b41_as47))
      have Vb47_342 := Vb47_315.other W336 (Ne.symm ne_b41_ab47)
      have Ea118_343 := Ea118_316.wr W336
      have Fc118_344 := Fc118_317.other W336 (Or.inl (Ne.symm ne_b41_as118))
      have Fv118_345 := Fv118_318.other W336 (Or.inl (Ne.symm ne_b41_as118))
      have Vb118_346 := Vb118_319.other W336 (Ne.symm ne_b41_ab118)
      have Ea142_347 := Ea142_320.wr W336
      have Fc142_348 := Fc142_321.other W336 (Or.inl (Ne.symm ne_b41_as142))
      have Fv142_349 := Fv142_322.other W336 (Or.inl (Ne.symm ne_b41_as142))
      have Vb142_350 := Vb142_323.other W336 (Ne.symm ne_b41_ab142)
      have Ea174_351 := Ea174_324.wr W336
      have Fc174_352 := Fc174_325.other W336 (Or.inl (Ne.symm ne_b41_as174))
      have Fv174_353 := Fv174_326.other W336 (Or.inl (Ne.symm ne_b41_as174))
      have Vb174_354 := Vb174_327.other W336 (Ne.symm ne_b41_ab174)
      have Ea260_355 := Ea260_328.wr W336
      have Fc260_356 := Fc260_329.other W336 (Or.inl (Ne.symm ne_b41_as260))
      have Fv260_357 := Fv260_330.other W336 (Or.inl (Ne.symm ne_b41_as260))
      have Vb260_358 := Vb260_331.other W336 (Ne.symm ne_b41_ab260)
      have Kp359 : Keep h0 _ [] := Kp332.wr W336 (Or.inr sz_b41)
      have Z360 := Nat.le_trans Z333 (Keep.of_wr W336).1
      have kZ360 := Nat.le_trans kZ333 (Keep.of_wr W336).1
      have CH336 := CH309.trans (CHr.wr W336 (Safe.arr hZ.alike Ar336 (fun q => by cases q)) CH309.1)
      obtain ⟨L336, X336, N336⟩ := own_gl X336 (Fr.snoc X336 N309 g_b41)
      refine own_back st336 ?_
      show own_End p e below s _ _ _ (T336.setTop (mkF m 96 #[.val (.int p0), .unset] [(.ref b41)])) (own_EH Z)
      refine own_dup X336 hx (hb hby own_d2_96) rfl (q := 97) rfl ?_
      refine own_bipush X336 hx (hb hby own_d2_97) (z := 14) rfl (q := 99) rfl ?_
      refine own_back (ldcAgain (s := s) (vm0 := T260.vm) X336 hx hZ hown (hw _ (List.mem_of_getElem? (i := 10) rfl)) L260_9 (g := (mkF m 99 #[.val (.int p0), .unset] [(.int (14 : Int32)), (.ref b41), (.ref b41)])) rfl (hb hby own_d2_99)) ?_
      show own_End p e below s _ _ _ (T336.setTop (mkF m 101 #[.val (.int p0), .unset] [(.ref as47), (.int (14 : Int32)), (.ref b41), (.ref b41)])) (own_EH Z)
      obtain ⟨cl363, Ar363, q363, S363, N363v, H363, G363⟩ := id V_b41_336
      have hin363 : ¬ ((14 : Int32) < 0 ∨ cl363.slots.size ≤ ((14 : Int32)).toNatClampNeg) := inb_of S363 ⟨by decide, by decide⟩
      obtain ⟨T363, h363, X363, e363, W363, st363⟩ := stR X336 hx hZ e336 Ar363 (j := (14 : Int32)) hin363 rfl (Sto.ofV Ar363 q363 O41 (Ins.self Ea47_339)) (g := (mkF m 101 #[.val (.int p0), .unset] [(.ref as47), (.int (14 : Int32)), (.ref b41), (.ref b41)])) rfl rfl (hb hby own_d2_101)
      have V_b41_363 : Arv Z h363 b41 k41 (.object "java/lang/String") (16 : Int32) [(.ref as47), (.ref as47), (.ref as47), (.ref as47), (.ref as47), (.ref as47), (.ref as118), (.ref as142), (.ref as174), (.ref as118), (.ref as118), (.ref as260), (.ref as47), (.ref as47), (.ref as47), .null] .null := Arv.set Ar363 q363 S363 N363v H363 G363 rfl W363 14 rfl (Nat.le_of_ble_eq_true rfl)
      have S_c_364 := S_c_337.wr W363
      have S_f_365 := S_f_338.wr W363
      have Ea47_366 := Ea47_339.wr W363
      have Fc47_367 := Fc47_340.other W363 (Or.inl (Ne.symm ne_b41_as47))
      have Fv47_368 := Fv47_341.other W363 (Or.inl (Ne.symm ne_b41_as47))
      have Vb47_369 := Vb47_342.other W363 (Ne.symm ne_b41_ab47)
      have Ea118_370 := Ea118_343.wr W363
      have Fc118_371 := Fc118_344.other W363 (Or.inl (Ne.symm ne_b41_as118))
      have Fv118_372 := Fv118_345.other W363 (Or.inl (Ne.symm ne_b41_as118))
      have Vb118_373 := Vb118_346.other W363 (Ne.symm ne_b41_ab118)
      have Ea142_374 := Ea142_347.wr W363
      have Fc142_375 := Fc142_348.other W363 (Or.inl (Ne.symm ne_b41_as142))
      have Fv142_376 := Fv142_349.other W363 (Or.inl (Ne.symm ne_b41_as142))
      have Vb142_377 := Vb142_350.other W363 (Ne.symm ne_b41_ab142)
      have Ea174_378 := Ea174_351.wr W363
      have Fc174_379 := Fc174_352.other W363 (Or.inl (Ne.symm ne_b41_as174))
      have Fv174_380 := Fv174_353.other W363 (Or.inl (Ne.symm ne_b41_as174))
      have Vb174_381 := Vb174_354.other W363 (Ne.symm ne_b41_ab174)
      have Ea260_382 := Ea260_355.wr W363
      have Fc260_383 := Fc260_356.other W363 (Or.inl (Ne.symm ne_b41_as260))
      have Fv260_384 := Fv260_357.other W363 (Or.inl (Ne.symm ne_b41_as260))
      have Vb260_385 := Vb260_358.other W363 (Ne.symm ne_b41_ab260)
      have Kp386 : Keep h0 _ [] := Kp359.wr W363 (Or.inr sz_b41)
      have Z387 := Nat.le_trans Z360 (Keep.of_wr W363).1
      have kZ387 := Nat.le_trans kZ360 (Keep.of_wr W363).1
      have CH363 := CH336.trans (CHr.wr W363 (Safe.arr hZ.alike Ar363 (fun q => by cases q)) CH336.1)
      obtain ⟨L363, X363, N363⟩ := own_gl X363 (Fr.snoc X363 N336 g_b41)
      refine own_back st363 ?_
      show own_End p e below s _ _ _ (T363.setTop (mkF m 102 #[.val (.int p0), .unset] [(.ref b41)])) (own_EH Z)
      refine own_dup X363 hx (hb hby own_d2_102) rfl (q := 103) rfl ?_
      refine own_bipush X363 hx (hb hby own_d2_103) (z := 15) rfl (q := 105) rfl ?_
      refine own_back (ldcAgain (s := s) (vm0 := T260.vm) X363 hx hZ hown (hw _ (List.mem_of_getElem? (i := 10) rfl)) L260_9 (g := (mkF m 105 #[.val (.int p0), .unset] [(.int (15 : Int32)), (.ref b41), (.ref b41)])) rfl (hb hby own_d2_105)) ?_
      show own_End p e below s _ _ _ (T363.setTop (mkF m 107 #[.val (.int p0), .unset] [(.ref as47), (.int (15 : Int32)), (.ref b41), (.ref b41)])) (own_EH Z)
      obtain ⟨cl390, Ar390, q390, S390, N390v, H390, G390⟩ := id V_b41_363
      have hin390 : ¬ ((15 : Int32) < 0 ∨ cl390.slots.size ≤ ((15 : Int32)).toNatClampNeg) := inb_of S390 ⟨by decide, by decide⟩
      obtain ⟨T390, h390, X390, e390, W390, st390⟩ := stR X363 hx hZ e363 Ar390 (j := (15 : Int32)) hin390 rfl (Sto.ofV Ar390 q390 O41 (Ins.self Ea47_366)) (g := (mkF m 107 #[.val (.int p0), .unset] [(.ref as47), (.int (15 : Int32)), (.ref b41), (.ref b41)])) rfl rfl (hb hby own_d2_107)
      have V_b41_390 : Arv Z h390 b41 k41 (.object "java/lang/String") (16 : Int32) [(.ref as47), (.ref as47), (.ref as47), (.ref as47), (.ref as47), (.ref as47), (.ref as118), (.ref as142), (.ref as174), (.ref as118), (.ref as118), (.ref as260), (.ref as47), (.ref as47), (.ref as47), (.ref as47)] .null := Arv.set Ar390 q390 S390 N390v H390 G390 rfl W390 15 rfl (Nat.le_of_ble_eq_true rfl)
      have S_c_391 := S_c_364.wr W390
      have S_f_392 := S_f_365.wr W390
      have Ea47_393 := Ea47_366.wr W390
      have Fc47_394 := Fc47_367.other W390 (Or.inl (Ne.symm ne_b41_as47))
      have Fv47_395 := Fv47_368.other W390 (Or.inl (Ne.symm ne_b41_as47))
      have Vb47_396 := Vb47_369.other W390 (Ne.symm ne_b41_ab47)
      have Ea118_397 := Ea118_370.wr W390
      have Fc118_398 := Fc118_371.other W390 (Or.inl (Ne.symm ne_b41_as118))
      have Fv118_399 := Fv118_372.other W390 (Or.inl (Ne.symm ne_b41_as118))
      have Vb118_400 := Vb118_373.other W390 (Ne.symm ne_b41_ab118)
      have Ea142_401 := Ea142_374.wr W390
      have Fc142_402 := Fc142_375.other W390 (Or.inl (Ne.symm ne_b41_as142))
      have Fv142_403 := Fv142_376.other W390 (Or.inl (Ne.symm ne_b41_as142))
      have Vb142_404 := Vb142_377.other W390 (Ne.symm ne_b41_ab142)
      have Ea174_405 := Ea174_378.wr W390
      have Fc174_406 := Fc174_379.other W390 (Or.inl (Ne.symm ne_b41_as174))
      have Fv174_407 := Fv174_380.other W390 (Or.inl (Ne.symm ne_b41_as174))
      have Vb174_408 := Vb174_381.other W390 (Ne.symm ne_b41_ab174)
      have Ea260_409 := Ea260_382.wr W390
      have Fc260_410 := Fc260_383.other W390 (Or.inl (Ne.symm ne_b41_as260))
      have Fv260_411 := Fv260_384.other W390 (Or.inl (Ne.symm ne_b41_as260))
      have Vb260_412 := Vb260_385.other W390 (Ne.symm ne_b41_ab260)
      have Kp413 : Keep h0 _ [] := Kp386.wr W390 (Or.inr sz_b41)
      have Z414 := Nat.le_trans Z387 (Keep.of_wr W390).1
      have kZ414 := Nat.le_trans kZ387 (Keep.of_wr W390).1
      have CH390 := CH363.trans (CHr.wr W390 (Safe.arr hZ.alike Ar390 (fun q => by cases q)) CH363.1)
      obtain ⟨L390, X390, N390⟩ := own_gl X390 (Fr.snoc X390 N363 g_b41)
      refine own_back st390 ?_
      show own_End p e below s _ _ _ (T390.setTop (mkF m 108 #[.val (.int p0), .unset] [(.ref b41)])) (own_EH Z)
      refine own_astoreN X390 hx (hb hby own_d2_108) rfl (l' := #[.val (.int p0), .val (.ref b41)]) rfl (q := 109) rfl ?_
      refine own_aloadN X390 hx (hb hby own_d2_109) rfl rfl (q := 110) rfl ?_
      refine own_iloadN X390 hx (hb hby own_d2_110) rfl (q := 111) rfl ?_
      refine own_iconst X390 hx (hb hby own_d2_111) (z := 3) rfl (q := 112) rfl ?_
      refine own_ishr X390 hx (hb hby own_d2_112) (q := 113) rfl ?_
      obtain ⟨hj1, hj2⟩ : ¬ ((p0 &&& (7 : Int32)) < (0 : Int32)) ∧ (p0 &&& (7 : Int32)) < (8 : Int32) := own_j7 p0
      by_cases hz415 : (p0 >>> ((3 : Int32) &&& 31)) = (0 : Int32)
      · rw [hz415]
        obtain ⟨cl416, Ar416, q416, S416, N416v, H416, G416⟩ := id V_b41_390
        have hin416 : ¬ ((0 : Int32) < 0 ∨ cl416.slots.size ≤ ((0 : Int32)).toNatClampNeg) := inb_of S416 ⟨by decide, by decide⟩
        refine own_back (X390.aaload hx (j := (0 : Int32)) (v := (.ref as47)) (by rw [e390]; exact Ar416.1) (State.isArrayOf_alike hZ.alike Ar416.2.1) rfl Ar416.2.2 hin416 (Has.at H416 hin416 rfl) (g := (mkF m 113 #[.val (.int p0), .val (.ref b41)] [(.int (0 : Int32)), (.ref b41)])) rfl rfl (hb hby own_d2_113)) ?_
        show own_End p e below s _ _ _ (T390.setTop (mkF m 114 #[.val (.int p0), .val (.ref b41)] [(.ref as47)])) (own_EH Z)
        refine own_iloadN X390 hx (hb hby own_d2_114) rfl (q := 115) rfl ?_
        refine own_bipush X390 hx (hb hby own_d2_115) (z := 7) rfl (q := 117) rfl ?_
        refine own_iand X390 hx (hb hby own_d2_117) (q := 118) rfl ?_
        obtain ⟨cq417, kq417, q417a, q417b, q417c⟩ := isOf hZ e390 Ea47_393
        obtain ⟨T417, Lc417, L417, X417, N417, hQ417, st417⟩ := own_shutV (val := some (.int (((((own_sel (p0 &&& (7 : Int32)) (48 : Int32) (48 : Int32) (48 : Int32) (48 : Int32) (48 : Int32) (48 : Int32) (48 : Int32) (48 : Int32)) &&& (255 : Int32)).toUInt32.toUInt16.toUInt32.toInt32).toUInt32.toUInt16.toUInt32.toInt32).toUInt32.toUInt16.toUInt32.toInt32))) (Q := own_Q3 Z as47 (p0 &&& (7 : Int32)) ab47 ak47 (48 : Int32) (48 : Int32) (48 : Int32) (48 : Int32) (48 : Int32) (48 : Int32) (48 : Int32) (48 : Int32) cs sb h390 n0) (rc := 0) (rs := 0) N390 (fun _ _ _ q => ⟨q.1, q.2.1⟩) (X390.virtualBack hx (y := (⟨"java/lang/String", "charAt", "(I)C"⟩ : MethodName)) (z := (⟨"java/lang/String", "charAt", "(I)C"⟩ : MethodName)) hown (mvT hZ (hw _ (List.mem_of_getElem? (i := 23) rfl))) (mvT hZ (hw _ (List.mem_of_getElem? (i := 24) rfl))) (notFace_of_selects (args := #[]) (mvT hZ (hw _ (List.mem_of_getElem? (i := 26) rfl)))) (mvT hZ (hw _ (List.mem_of_getElem? (i := 26) rfl))) (mvT hZ (hw _ (List.mem_of_getElem? (i := 25) rfl))) (by decide) (backOf (W := 0) (own_rm3 l Z a0 hw [] as47 (p0 &&& (7 : Int32)) ab47 ak47 (48 : Int32) (48 : Int32) (48 : Int32) (48 : Int32) (48 : Int32) (48 : Int32) (48 : Int32) (48 : Int32) cs sb h390 n0 Z414 Ea47_393 Fv47_395 Fc47_394 Vb47_396 S_c_391 S_f_392 (by assumption : ¬ (cs = (0 : Int32))) (by assumption : sb = .null ∨ ∃ x, sb = .ref x) (by assumption : ¬ ((p0 &&& (7 : Int32)) < (0 : Int32))) (by assumption : (p0 &&& (7 : Int32)) < (8 : Int32))) hZ (hw _ (List.mem_of_getElem? (i := 27) rfl)) (hw _ (List.mem_of_getElem? (i := 11) rfl)) (by decide) (by decide)) q417a q417c (g := (mkF m 118 #[.val (.int p0), .val (.ref b41)] [(.int (p0 &&& (7 : Int32))), (.ref as47)])) rfl (by rw [hml]; rfl) (Steps.refl _) (argsL := [(.int (p0 &&& (7 : Int32)))]) (rest := []) (lenOf own_pd4 rfl) rfl (by show 2 * 0 + _ ≤ _; exact Nat.le_of_eq rfl) (hb hby own_d2_118) (fun _ _ => ⟨rfl, e390, (by decide : 11 + 0 ≤ _), (by decide : 196 + 0 ≤ _)⟩))
        obtain ⟨-, -, e417⟩ := hQ417
        refine own_via st417 ?_
        show own_End p e below s _ _ _ (T417.setTop (mkF m 121 #[.val (.int p0), .val (.ref b41)] [(.int (((((own_sel (p0 &&& (7 : Int32)) (48 : Int32) (48 : Int32) (48 : Int32) (48 : Int32) (48 : Int32) (48 : Int32) (48 : Int32) (48 : Int32)) &&& (255 : Int32)).toUInt32.toUInt16.toUInt32.toInt32).toUInt32.toUInt16.toUInt32.toInt32).toUInt32.toUInt16.toUInt32.toInt32))])) (own_EH Z)
        refine own_bipush X417 hx (hb hby own_d2_121) (z := 49) rfl (q := 123) rfl ?_
        by_cases hc123_418 : (((((own_sel (p0 &&& (7 : Int32)) (48 : Int32) (48 : Int32) (48 : Int32) (48 : Int32) (48 : Int32) (48 : Int32) (48 : Int32) (48 : Int32)) &&& (255 : Int32)).toUInt32.toUInt16.toUInt32.toInt32).toUInt32.toUInt16.toUInt32.toInt32).toUInt32.toUInt16.toUInt32.toInt32) = (49 : Int32)
        · refine own_icN X417 hx (hb hby own_d2_123) (teq hc123_418).2 (q := 126) rfl ?_
          refine own_iconst X417 hx (hb hby own_d2_126) (z := 1) rfl (q := 127) rfl ?_
          refine own_goto X417 hx (hb hby own_d2_127) (q := 131) (by decide) (by decide) ?_
          refine own_retNH (s := s) (vm := T260.vm) X417 hx hS260 kZ414 e417 hh hZ (own_EW hw) CH390 (t := .boolean) (by simp) Bd.returns Bd.notSynchronized (by decide) (by decide) (hb hby own_d2_131) ?_
          show own_Q2 Z p0 cs sb h0 n0 _ T417.heap _
          rw [e417]
          exact ⟨(by rw [show own_F2 p0 = _ from (by simp only [own_F2, if_neg hc1_38, if_pos hc8_40, if_pos hz415, if_pos hc123_418] : _ = (1 : Int32))]; rfl), N417, Kp413, trivial⟩
        · refine own_icY X417 hx (hb hby own_d2_123) (feq hc123_418).2 (q := 130) (by decide) (by decide) ?_
          refine own_iconst X417 hx (hb hby own_d2_130) (z := 0) rfl (q := 131) rfl ?_
          refine own_retNH (s := s) (vm := T260.vm) X417 hx hS260 kZ414 e417 hh hZ (own_EW hw) CH390 (t := .boolean) (by simp) Bd.returns Bd.notSynchronized (by decide) (by decide) (hb hby own_d2_131) ?_
          show own_Q2 Z p0 cs sb h0 n0 _ T417.heap _
          rw [e417]
          exact ⟨(by rw [show own_F2 p0 = _ from (by simp only [own_F2, if_neg hc1_38, if_pos hc8_40, if_pos hz415, if_neg hc123_418] : _ = (0 : Int32))]; rfl), N417, Kp413, trivial⟩
      · by_cases hz421 : (p0 >>> ((3 : Int32) &&& 31)) = (1 : Int32)
        · rw [hz421]
          obtain ⟨cl422, Ar422, q422, S422, N422v, H422, G422⟩ := id V_b41_390
          have hin422 : ¬ ((1 : Int32) < 0 ∨ cl422.slots.size ≤ ((1 : Int32)).toNatClampNeg) := inb_of S422 ⟨by decide, by decide⟩
          refine own_back (X390.aaload hx (j := (1 : Int32)) (v := (.ref as47)) (by rw [e390]; exact Ar422.1) (State.isArrayOf_alike hZ.alike Ar422.2.1) rfl Ar422.2.2 hin422 (Has.at H422 hin422 rfl) (g := (mkF m 113 #[.val (.int p0), .val (.ref b41)] [(.int (1 : Int32)), (.ref b41)])) rfl rfl (hb hby own_d2_113)) ?_
          show own_End p e below s _ _ _ (T390.setTop (mkF m 114 #[.val (.int p0), .val (.ref b41)] [(.ref as47)])) (own_EH Z)
          refine own_iloadN X390 hx (hb hby own_d2_114) rfl (q := 115) rfl ?_
          refine own_bipush X390 hx (hb hby own_d2_115) (z := 7) rfl (q := 117) rfl ?_
          refine own_iand X390 hx (hb hby own_d2_117) (q := 118) rfl ?_
          obtain ⟨cq423, kq423, q423a, q423b, q423c⟩ := isOf hZ e390 Ea47_393
          obtain ⟨T423, Lc423, L423, X423, N423, hQ423, st423⟩ := own_shutV (val := some (.int (((((own_sel (p0 &&& (7 : Int32)) (48 : Int32) (48 : Int32) (48 : Int32) (48 : Int32) (48 : Int32) (48 : Int32) (48 : Int32) (48 : Int32)) &&& (255 : Int32)).toUInt32.toUInt16.toUInt32.toInt32).toUInt32.toUInt16.toUInt32.toInt32).toUInt32.toUInt16.toUInt32.toInt32))) (Q := own_Q3 Z as47 (p0 &&& (7 : Int32)) ab47 ak47 (48 : Int32) (48 : Int32) (48 : Int32) (48 : Int32) (48 : Int32) (48 : Int32) (48 : Int32) (48 : Int32) cs sb h390 n0) (rc := 0) (rs := 0) N390 (fun _ _ _ q => ⟨q.1, q.2.1⟩) (X390.virtualBack hx (y := (⟨"java/lang/String", "charAt", "(I)C"⟩ : MethodName)) (z := (⟨"java/lang/String", "charAt", "(I)C"⟩ : MethodName)) hown (mvT hZ (hw _ (List.mem_of_getElem? (i := 23) rfl))) (mvT hZ (hw _ (List.mem_of_getElem? (i := 24) rfl))) (notFace_of_selects (args := #[]) (mvT hZ (hw _ (List.mem_of_getElem? (i := 26) rfl)))) (mvT hZ (hw _ (List.mem_of_getElem? (i := 26) rfl))) (mvT hZ (hw _ (List.mem_of_getElem? (i := 25) rfl))) (by decide) (backOf (W := 0) (own_rm3 l Z a0 hw [] as47 (p0 &&& (7 : Int32)) ab47 ak47 (48 : Int32) (48 : Int32) (48 : Int32) (48 : Int32) (48 : Int32) (48 : Int32) (48 : Int32) (48 : Int32) cs sb h390 n0 Z414 Ea47_393 Fv47_395 Fc47_394 Vb47_396 S_c_391 S_f_392 (by assumption : ¬ (cs = (0 : Int32))) (by assumption : sb = .null ∨ ∃ x, sb = .ref x) (by assumption : ¬ ((p0 &&& (7 : Int32)) < (0 : Int32))) (by assumption : (p0 &&& (7 : Int32)) < (8 : Int32))) hZ (hw _ (List.mem_of_getElem? (i := 27) rfl)) (hw _ (List.mem_of_getElem? (i := 11) rfl)) (by decide) (by decide)) q423a q423c (g := (mkF m 118 #[.val (.int p0), .val (.ref b41)] [(.int (p0 &&& (7 : Int32))), (.ref as47)])) rfl (by rw [hml]; rfl) (Steps.refl _) (argsL := [(.int (p0 &&& (7 : Int32)))]) (rest := []) (lenOf own_pd4 rfl) rfl (by show 2 * 0 + _ ≤ _; exact Nat.le_of_eq rfl) (hb hby own_d2_118) (fun _ _ => ⟨rfl, e390, (by decide : 11 + 0 ≤ _), (by decide : 196 + 0 ≤ _)⟩))
          obtain ⟨-, -, e423⟩ := hQ423
          refine own_via st423 ?_
          show own_End p e below s _ _ _ (T423.setTop (mkF m 121 #[.val (.int p0), .val (.ref b41)] [(.int (((((own_sel (p0 &&& (7 : Int32)) (48 : Int32) (48 : Int32) (48 : Int32) (48 : Int32) (48 : Int32) (48 : Int32) (48 : Int32) (48 : Int32)) &&& (255 : Int32)).toUInt32.toUInt16.toUInt32.toInt32).toUInt32.toUInt16.toUInt32.toInt32).toUInt32.toUInt16.toUInt32.toInt32))])) (own_EH Z)
          refine own_bipush X423 hx (hb hby own_d2_121) (z := 49) rfl (q := 123) rfl ?_
          by_cases hc123_424 : (((((own_sel (p0 &&& (7 : Int32)) (48 : Int32) (48 : Int32) (48 : Int32) (48 : Int32) (48 : Int32) (48 : Int32) (48 : Int32) (48 : Int32)) &&& (255 : Int32)).toUInt32.toUInt16.toUInt32.toInt32).toUInt32.toUInt16.toUInt32.toInt32).toUInt32.toUInt16.toUInt32.toInt32) = (49 : Int32)
          · refine own_icN X423 hx (hb hby own_d2_123) (teq hc123_424).2 (q := 126) rfl ?_
            refine own_iconst X423 hx (hb hby own_d2_126) (z := 1) rfl (q := 127) rfl ?_
            refine own_goto X423 hx (hb hby own_d2_127) (q := 131) (by decide) (by decide) ?_
            refine own_retNH (s := s) (vm := T260.vm) X423 hx hS260 kZ414 e423 hh hZ (own_EW hw) CH390 (t := .boolean) (by simp) Bd.returns Bd.notSynchronized (by decide) (by decide) (hb hby own_d2_131) ?_
            show own_Q2 Z p0 cs sb h0 n0 _ T423.heap _
            rw [e423]
            exact ⟨(by rw [show own_F2 p0 = _ from (by simp only [own_F2, if_neg hc1_38, if_pos hc8_40, if_neg hz415, if_pos hz421, if_pos hc123_424] : _ = (1 : Int32))]; rfl), N423, Kp413, trivial⟩
          · refine own_icY X423 hx (hb hby own_d2_123) (feq hc123_424).2 (q := 130) (by decide) (by decide) ?_
            refine own_iconst X423 hx (hb hby own_d2_130) (z := 0) rfl (q := 131) rfl ?_
            refine own_retNH (s := s) (vm := T260.vm) X423 hx hS260 kZ414 e423 hh hZ (own_EW hw) CH390 (t := .boolean) (by simp) Bd.returns Bd.notSynchronized (by decide) (by decide) (hb hby own_d2_131) ?_
            show own_Q2 Z p0 cs sb h0 n0 _ T423.heap _
            rw [e423]
            exact ⟨(by rw [show own_F2 p0 = _ from (by simp only [own_F2, if_neg hc1_38, if_pos hc8_40, if_neg hz415, if_pos hz421, if_neg hc123_424] : _ = (0 : Int32))]; rfl), N423, Kp413, trivial⟩
        · by_cases hz427 : (p0 >>> ((3 : Int32) &&& 31)) = (2 : Int32)
          · rw [hz427]
            obtain ⟨cl428, Ar428, q428, S428, N428v, H428, G428⟩ := id V_b41_390
            have hin428 : ¬ ((2 : Int32) < 0 ∨ cl428.slots.size ≤ ((2 : Int32)).toNatClampNeg) := inb_of S428 ⟨by decide, by decide⟩
            refine own_back (X390.aaload hx (j := (2 : Int32)) (v := (.ref as47)) (by rw [e390]; exact Ar428.1) (State.isArrayOf_alike hZ.alike Ar428.2.1) rfl Ar428.2.2 hin428 (Has.at H428 hin428 rfl) (g := (mkF m 113 #[.val (.int p0), .val (.ref b41)] [(.int (2 : Int32)), (.ref b41)])) rfl rfl (hb hby own_d2_113)) ?_
            show own_End p e below s _ _ _ (T390.setTop (mkF m 114 #[.val (.int p0), .val (.ref b41)] [(.ref as47)])) (own_EH Z)
            refine own_iloadN X390 hx (hb hby own_d2_114) rfl (q := 115) rfl ?_
            refine own_bipush X390 hx (hb hby own_d2_115) (z := 7) rfl (q := 117) rfl ?_
            refine own_iand X390 hx (hb hby own_d2_117) (q := 118) rfl ?_
            obtain ⟨cq429, kq429, q429a, q429b, q429c⟩ := isOf hZ e390 Ea47_393
            obtain ⟨T429, Lc429, L429, X429, N429, hQ429, st429⟩ := own_shutV (val := some (.int (((((own_sel (p0 &&& (7 : Int32)) (48 : Int32) (48 : Int32) (48 : Int32) (48 : Int32) (48 : Int32) (48 : Int32) (48 : Int32) (48 : Int32)) &&& (255 : Int32)).toUInt32.toUInt16.toUInt32.toInt32).toUInt32.toUInt16.toUInt32.toInt32).toUInt32.toUInt16.toUInt32.toInt32))) (Q := own_Q3 Z as47 (p0 &&& (7 : Int32)) ab47 ak47 (48 : Int32) (48 : Int32) (48 : Int32) (48 : Int32) (48 : Int32) (48 : Int32) (48 : Int32) (48 : Int32) cs sb h390 n0) (rc := 0) (rs := 0) N390 (fun _ _ _ q => ⟨q.1, q.2.1⟩) (X390.virtualBack hx (y := (⟨"java/lang/String", "charAt", "(I)C"⟩ : MethodName)) (z := (⟨"java/lang/String", "charAt", "(I)C"⟩ : MethodName)) hown (mvT hZ (hw _ (List.mem_of_getElem? (i := 23) rfl))) (mvT hZ (hw _ (List.mem_of_getElem? (i := 24) rfl))) (notFace_of_selects (args := #[]) (mvT hZ (hw _ (List.mem_of_getElem? (i := 26) rfl)))) (mvT hZ (hw _ (List.mem_of_getElem? (i := 26) rfl))) (mvT hZ (hw _ (List.mem_of_getElem? (i := 25) rfl))) (by decide) (backOf (W := 0) (own_rm3 l Z a0 hw [] as47 (p0 &&& (7 : Int32)) ab47 ak47 (48 : Int32) (48 : Int32) (48 : Int32) (48 : Int32) (48 : Int32) (48 : Int32) (48 : Int32) (48 : Int32) cs sb h390 n0 Z414 Ea47_393 Fv47_395 Fc47_394 Vb47_396 S_c_391 S_f_392 (by assumption : ¬ (cs = (0 : Int32))) (by assumption : sb = .null ∨ ∃ x, sb = .ref x) (by assumption : ¬ ((p0 &&& (7 : Int32)) < (0 : Int32))) (by assumption : (p0 &&& (7 : Int32)) < (8 : Int32))) hZ (hw _ (List.mem_of_getElem? (i := 27) rfl)) (hw _ (List.mem_of_getElem? (i := 11) rfl)) (by decide) (by decide)) q429a q429c (g := (mkF m 118 #[.val (.int p0), .val (.ref b41)] [(.int (p0 &&& (7 : Int32))), (.ref as47)])) rfl (by rw [hml]; rfl) (Steps.refl _) (argsL := [(.int (p0 &&& (7 : Int32)))]) (rest := []) (lenOf own_pd4 rfl) rfl (by show 2 * 0 + _ ≤ _; exact Nat.le_of_eq rfl) (hb hby own_d2_118) (fun _ _ => ⟨rfl, e390, (by decide : 11 + 0 ≤ _), (by decide : 196 + 0 ≤ _)⟩))
            obtain ⟨-, -, e429⟩ := hQ429
            refine own_via st429 ?_
            show own_End p e below s _ _ _ (T429.setTop (mkF m 121 #[.val (.int p0), .val (.ref b41)] [(.int (((((own_sel (p0 &&& (7 : Int32)) (48 : Int32) (48 : Int32) (48 : Int32) (48 : Int32) (48 : Int32) (48 : Int32) (48 : Int32) (48 : Int32)) &&& (255 : Int32)).toUInt32.toUInt16.toUInt32.toInt32).toUInt32.toUInt16.toUInt32.toInt32).toUInt32.toUInt16.toUInt32.toInt32))])) (own_EH Z)
            refine own_bipush X429 hx (hb hby own_d2_121) (z := 49) rfl (q := 123) rfl ?_
            by_cases hc123_430 : (((((own_sel (p0 &&& (7 : Int32)) (48 : Int32) (48 : Int32) (48 : Int32) (48 : Int32) (48 : Int32) (48 : Int32) (48 : Int32) (48 : Int32)) &&& (255 : Int32)).toUInt32.toUInt16.toUInt32.toInt32).toUInt32.toUInt16.toUInt32.toInt32).toUInt32.toUInt16.toUInt32.toInt32) = (49 : Int32)
            · refine own_icN X429 hx (hb hby own_d2_123) (teq hc123_430).2 (q := 126) rfl ?_
              refine own_iconst X429 hx (hb hby own_d2_126) (z := 1) rfl (q := 127) rfl ?_
              refine own_goto X429 hx (hb hby own_d2_127) (q := 131) (by decide) (by decide) ?_
              refine own_retNH (s := s) (vm := T260.vm) X429 hx hS260 kZ414 e429 hh hZ (own_EW hw) CH390 (t := .boolean) (by simp) Bd.returns Bd.notSynchronized (by decide) (by decide) (hb hby own_d2_131) ?_
              show own_Q2 Z p0 cs sb h0 n0 _ T429.heap _
              rw [e429]
              exact ⟨(by rw [show own_F2 p0 = _ from (by simp only [own_F2, if_neg hc1_38, if_pos hc8_40, if_neg hz415, if_neg hz421, if_pos hz427, if_pos hc123_430] : _ = (1 : Int32))]; rfl), N429, Kp413, trivial⟩
            · refine own_icY X429 hx (hb hby own_d2_123) (feq hc123_430).2 (q := 130) (by decide) (by decide) ?_
              refine own_iconst X429 hx (hb hby own_d2_130) (z := 0) rfl (q := 131) rfl ?_
              refine own_retNH (s := s) (vm := T260.vm) X429 hx hS260 kZ414 e429 hh hZ (own_EW hw) CH390 (t := .boolean) (by simp) Bd.returns Bd.notSynchronized (by decide) (by decide) (hb hby own_d2_131) ?_
              show own_Q2 Z p0 cs sb h0 n0 _ T429.heap _
              rw [e429]
              exact ⟨(by rw [show own_F2 p0 = _ from (by simp only [own_F2, if_neg hc1_38, if_pos hc8_40, if_neg hz415, if_neg hz421, if_pos hz427, if_neg hc123_430] : _ = (0 : Int32))]; rfl), N429, Kp413, trivial⟩
          · by_cases hz433 : (p0 >>> ((3 : Int32) &&& 31)) = (3 : Int32)
            · rw [hz433]
              obtain ⟨cl434, Ar434, q434, S434, N434v, H434, G434⟩ := id V_b41_390
              have hin434 : ¬ ((3 : Int32) < 0 ∨ cl434.slots.size ≤ ((3 : Int32)).toNatClampNeg) := inb_of S434 ⟨by decide, by decide⟩
              refine own_back (X390.aaload hx (j := (3 : Int32)) (v := (.ref as47)) (by rw [e390]; exact Ar434.1) (State.isArrayOf_alike hZ.alike Ar434.2.1) rfl Ar434.2.2 hin434 (Has.at H434 hin434 rfl) (g := (mkF m 113 #[.val (.int p0), .val (.ref b41)] [(.int (3 : Int32)), (.ref b41)])) rfl rfl (hb hby own_d2_113)) ?_
              show own_End p e below s _ _ _ (T390.setTop (mkF m 114 #[.val (.int p0), .val (.ref b41)] [(.ref as47)])) (own_EH Z)
              refine own_iloadN X390 hx (hb hby own_d2_114) rfl (q := 115) rfl ?_
              refine own_bipush X390 hx (hb hby own_d2_115) (z := 7) rfl (q := 117) rfl ?_
              refine own_iand X390 hx (hb hby own_d2_117) (q := 118) rfl ?_
              obtain ⟨cq435, kq435, q435a, q435b, q435c⟩ := isOf hZ e390 Ea47_393
              obtain ⟨T435, Lc435, L435, X435, N435, hQ435, st435⟩ := own_shutV (val := some (.int (((((own_sel (p0 &&& (7 : Int32)) (48 : Int32) (48 : Int32) (48 : Int32) (48 : Int32) (48 : Int32) (48 : Int32) (48 : Int32) (48 : Int32)) &&& (255 : Int32)).toUInt32.toUInt16.toUInt32.toInt32).toUInt32.toUInt16.toUInt32.toInt32).toUInt32.toUInt16.toUInt32.toInt32))) (Q := own_Q3 Z as47 (p0 &&& (7 : Int32)) ab47 ak47 (48 : Int32) (48 : Int32) (48 : Int32) (48 : Int32) (48 : Int32) (48 : Int32) (48 : Int32) (48 : Int32) cs sb h390 n0) (rc := 0) (rs := 0) N390 (fun _ _ _ q => ⟨q.1, q.2.1⟩) (X390.virtualBack hx (y := (⟨"java/lang/String", "charAt", "(I)C"⟩ : MethodName)) (z := (⟨"java/lang/String", "charAt", "(I)C"⟩ : MethodName)) hown (mvT hZ (hw _ (List.mem_of_getElem? (i := 23) rfl))) (mvT hZ (hw _ (List.mem_of_getElem? (i := 24) rfl))) (notFace_of_selects (args := #[]) (mvT hZ (hw _ (List.mem_of_getElem? (i := 26) rfl)))) (mvT hZ (hw _ (List.mem_of_getElem? (i := 26) rfl))) (mvT hZ (hw _ (List.mem_of_getElem? (i := 25) rfl))) (by decide) (backOf (W := 0) (own_rm3 l Z a0 hw [] as47 (p0 &&& (7 : Int32)) ab47 ak47 (48 : Int32) (48 : Int32) (48 : Int32) (48 : Int32) (48 : Int32) (48 : Int32) (48 : Int32) (48 : Int32) cs sb h390 n0 Z414 Ea47_393 Fv47_395 Fc47_394 Vb47_396 S_c_391 S_f_392 (by assumption : ¬ (cs = (0 : Int32))) (by assumption : sb = .null ∨ ∃ x, sb = .ref x) (by assumption : ¬ ((p0 &&& (7 : Int32)) < (0 : Int32))) (by assumption : (p0 &&& (7 : Int32)) < (8 : Int32))) hZ (hw _ (List.mem_of_getElem? (i := 27) rfl)) (hw _ (List.mem_of_getElem? (i := 11) rfl)) (by decide) (by decide)) q435a q435c (g := (mkF m 118 #[.val (.int p0), .val (.ref b41)] [(.int (p0 &&& (7 : Int32))), (.ref as47)])) rfl (by rw [hml]; rfl) (Steps.refl _) (argsL := [(.int (p0 &&& (7 : Int32)))]) (rest := []) (lenOf own_pd4 rfl) rfl (by show 2 * 0 + _ ≤ _; exact Nat.le_of_eq rfl) (hb hby own_d2_118) (fun _ _ => ⟨rfl, e390, (by decide : 11 + 0 ≤ _), (by decide : 196 + 0 ≤ _)⟩))
              obtain ⟨-, -, e435⟩ := hQ435
              refine own_via st435 ?_
              show own_End p e below s _ _ _ (T435.setTop (mkF m 121 #[.val (.int p0), .val (.ref b41)] [(.int (((((own_sel (p0 &&& (7 : Int32)) (48 : Int32) (48 : Int32) (48 : Int32) (48 : Int32) (48 : Int32) (48 : Int32) (48 : Int32) (48 : Int32)) &&& (255 : Int32)).toUInt32.toUInt16.toUInt32.toInt32).toUInt32.toUInt16.toUInt32.toInt32).toUInt32.toUInt16.toUInt32.toInt32))])) (own_EH Z)
              refine own_bipush X435 hx (hb hby own_d2_121) (z := 49) rfl (q := 123) rfl ?_
              by_cases hc123_436 : (((((own_sel (p0 &&& (7 : Int32)) (48 : Int32) (48 : Int32) (48 : Int32) (48 : Int32) (48 : Int32) (48 : Int32) (48 : Int32) (48 : Int32)) &&& (255 : Int32)).toUInt32.toUInt16.toUInt32.toInt32).toUInt32.toUInt16.toUInt32.toInt32).toUInt32.toUInt16.toUInt32.toInt32) = (49 : Int32)
              · refine own_icN X435 hx (hb hby own_d2_123) (teq hc123_436).2 (q := 126) rfl ?_
                refine own_iconst X435 hx (hb hby own_d2_126) (z := 1) rfl (q := 127) rfl ?_
                refine own_goto X435 hx (hb hby own_d2_127) (q := 131) (by decide) (by decide) ?_
                refine own_retNH (s := s) (vm := T260.vm) X435 hx hS260 kZ414 e435 hh hZ (own_EW hw) CH390 (t := .boolean) (by simp) Bd.returns Bd.notSynchronized (by decide) (by decide) (hb hby own_d2_131) ?_
                show own_Q2 Z p0 cs sb h0 n0 _ T435.heap _
                rw [e435]
                exact ⟨(by rw [show own_F2 p0 = _ from (by simp only [own_F2, if_neg hc1_38, if_pos hc8_40, if_neg hz415, if_neg hz421, if_neg hz427, if_pos hz433, if_pos hc123_436] : _ = (1 : Int32))]; rfl), N435, Kp413, trivial⟩
              · refine own_icY X435 hx (hb hby own_d2_123) (feq hc123_436).2 (q := 130) (by decide) (by decide) ?_
                refine own_iconst X435 hx (hb hby own_d2_130) (z := 0) rfl (q := 131) rfl ?_
                refine own_retNH (s := s) (vm := T260.vm) X435 hx hS260 kZ414 e435 hh hZ (own_EW hw) CH390 (t := .boolean) (by simp) Bd.returns Bd.notSynchronized (by decide) (by decide) (hb hby own_d2_131) ?_
                show own_Q2 Z p0 cs sb h0 n0 _ T435.heap _
                rw [e435]
                exact ⟨(by rw [show own_F2 p0 = _ from (by simp only [own_F2, if_neg hc1_38, if_pos hc8_40, if_neg hz415, if_neg hz421, if_neg hz427, if_pos hz433, if_neg hc123_436] : _ = (0 : Int32))]; rfl), N435, Kp413, trivial⟩
            · by_cases hz439 : (p0 >>> ((3 : Int32) &&& 31)) = (4 : Int32)
              · rw [hz439]
                obtain ⟨cl440, Ar440, q440, S440, N440v, H440, G440⟩ := id V_b41_390
                have hin440 : ¬ ((4 : Int32) < 0 ∨ cl440.slots.size ≤ ((4 : Int32)).toNatClampNeg) := inb_of S440 ⟨by decide, by decide⟩
                refine own_back (X390.aaload hx (j := (4 : Int32)) (v := (.ref as47)) (by rw [e390]; exact Ar440.1) (State.isArrayOf_alike hZ.alike Ar440.2.1) rfl Ar440.2.2 hin440 (Has.at H440 hin440 rfl) (g := (mkF m 113 #[.val (.int p0), .val (.ref b41)] [(.int (4 : Int32)), (.ref b41)])) rfl rfl (hb hby own_d2_113)) ?_
                show own_End p e below s _ _ _ (T390.setTop (mkF m 114 #[.val (.int p0), .val (.ref b41)] [(.ref as47)])) (own_EH Z)
                refine own_iloadN X390 hx (hb hby own_d2_114) rfl (q := 115) rfl ?_
                refine own_bipush X390 hx (hb hby own_d2_115) (z := 7) rfl (q := 117) rfl ?_
                refine own_iand X390 hx (hb hby own_d2_117) (q := 118) rfl ?_
                obtain ⟨cq441, kq441, q441a, q441b, q441c⟩ := isOf hZ e390 Ea47_393
                obtain ⟨T441, Lc441, L441, X441, N441, hQ441, st441⟩ := own_shutV (val := some (.int (((((own_sel (p0 &&& (7 : Int32)) (48 : Int32) (48 : Int32) (48 : Int32) (48 : Int32) (48 : Int32) (48 : Int32) (48 : Int32) (48 : Int32)) &&& (255 : Int32)).toUInt32.toUInt16.toUInt32.toInt32).toUInt32.toUInt16.toUInt32.toInt32).toUInt32.toUInt16.toUInt32.toInt32))) (Q := own_Q3 Z as47 (p0 &&& (7 : Int32)) ab47 ak47 (48 : Int32) (48 : Int32) (48 : Int32) (48 : Int32) (48 : Int32) (48 : Int32) (48 : Int32) (48 : Int32) cs sb h390 n0) (rc := 0) (rs := 0) N390 (fun _ _ _ q => ⟨q.1, q.2.1⟩) (X390.virtualBack hx (y := (⟨"java/lang/String", "charAt", "(I)C"⟩ : MethodName)) (z := (⟨"java/lang/String", "charAt", "(I)C"⟩ : MethodName)) hown (mvT hZ (hw _ (List.mem_of_getElem? (i := 23) rfl))) (mvT hZ (hw _ (List.mem_of_getElem? (i := 24) rfl))) (notFace_of_selects (args := #[]) (mvT hZ (hw _ (List.mem_of_getElem? (i := 26) rfl)))) (mvT hZ (hw _ (List.mem_of_getElem? (i := 26) rfl))) (mvT hZ (hw _ (List.mem_of_getElem? (i := 25) rfl))) (by decide) (backOf (W := 0) (own_rm3 l Z a0 hw [] as47 (p0 &&& (7 : Int32)) ab47 ak47 (48 : Int32) (48 : Int32) (48 : Int32) (48 : Int32) (48 : Int32) (48 : Int32) (48 : Int32) (48 : Int32) cs sb h390 n0 Z414 Ea47_393 Fv47_395 Fc47_394 Vb47_396 S_c_391 S_f_392 (by assumption : ¬ (cs = (0 : Int32))) (by assumption : sb = .null ∨ ∃ x, sb = .ref x) (by assumption : ¬ ((p0 &&& (7 : Int32)) < (0 : Int32))) (by assumption : (p0 &&& (7 : Int32)) < (8 : Int32))) hZ (hw _ (List.mem_of_getElem? (i := 27) rfl)) (hw _ (List.mem_of_getElem? (i := 11) rfl)) (by decide) (by decide)) q441a q441c (g := (mkF m 118 #[.val (.int p0), .val (.ref b41)] [(.int (p0 &&& (7 : Int32))), (.ref as47)])) rfl (by rw [hml]; rfl) (Steps.refl _) (argsL := [(.int (p0 &&& (7 : Int32)))]) (rest := []) (lenOf own_pd4 rfl) rfl (by show 2 * 0 + _ ≤ _; exact Nat.le_of_eq rfl) (hb hby own_d2_118) (fun _ _ => ⟨rfl, e390, (by decide : 11 + 0 ≤ _), (by decide : 196 + 0 ≤ _)⟩))
                obtain ⟨-, -, e441⟩ := hQ441
                refine own_via st441 ?_
                show own_End p e below s _ _ _ (T441.setTop (mkF m 121 #[.val (.int p0), .val (.ref b41)] [(.int (((((own_sel (p0 &&& (7 : Int32)) (48 : Int32) (48 : Int32) (48 : Int32) (48 : Int32) (48 : Int32) (48 : Int32) (48 : Int32) (48 : Int32)) &&& (255 : Int32)).toUInt32.toUInt16.toUInt32.toInt32).toUInt32.toUInt16.toUInt32.toInt32).toUInt32.toUInt16.toUInt32.toInt32))])) (own_EH Z)
                refine own_bipush X441 hx (hb hby own_d2_121) (z := 49) rfl (q := 123) rfl ?_
                by_cases hc123_442 : (((((own_sel (p0 &&& (7 : Int32)) (48 : Int32) (48 : Int32) (48 : Int32) (48 : Int32) (48 : Int32) (48 : Int32) (48 : Int32) (48 : Int32)) &&& (255 : Int32)).toUInt32.toUInt16.toUInt32.toInt32).toUInt32.toUInt16.toUInt32.toInt32).toUInt32.toUInt16.toUInt32.toInt32) = (49 : Int32)
                · refine own_icN X441 hx (hb hby own_d2_123) (teq hc123_442).2 (q := 126) rfl ?_
                  refine own_iconst X441 hx (hb hby own_d2_126) (z := 1) rfl (q := 127) rfl ?_
                  refine own_goto X441 hx (hb hby own_d2_127) (q := 131) (by decide) (by decide) ?_
                  refine own_retNH (s := s) (vm := T260.vm) X441 hx hS260 kZ414 e441 hh hZ (own_EW hw) CH390 (t := .boolean) (by simp) Bd.returns Bd.notSynchronized (by decide) (by decide) (hb hby own_d2_131) ?_
                  show own_Q2 Z p0 cs sb h0 n0 _ T441.heap _
                  rw [e441]
                  exact ⟨(by rw [show own_F2 p0 = _ from (by simp only [own_F2, if_neg hc1_38, if_pos hc8_40, if_neg hz415, if_neg hz421, if_neg hz427, if_neg hz433, if_pos hz439, if_pos hc123_442] : _ = (1 : Int32))]; rfl), N441, Kp413, trivial⟩
                · refine own_icY X441 hx (hb hby own_d2_123) (feq hc123_442).2 (q := 130) (by decide) (by decide) ?_
                  refine own_iconst X441 hx (hb hby own_d2_130) (z := 0) rfl (q := 131) rfl ?_
                  refine own_retNH (s := s) (vm := T260.vm) X441 hx hS260 kZ414 e441 hh hZ (own_EW hw) CH390 (t := .boolean) (by simp) Bd.returns Bd.notSynchronized (by decide) (by decide) (hb hby own_d2_131) ?_
                  show own_Q2 Z p0 cs sb h0 n0 _ T441.heap _
                  rw [e441]
                  exact ⟨(by rw [show own_F2 p0 = _ from (by simp only [own_F2, if_neg hc1_38, if_pos hc8_40, if_neg hz415, if_neg hz421, if_neg hz427, if_neg hz433, if_pos hz439, if_neg hc123_442] : _ = (0 : Int32))]; rfl), N441, Kp413, trivial⟩
              · by_cases hz445 : (p0 >>> ((3 : Int32) &&& 31)) = (5 : Int32)
                · rw [hz445]
                  obtain ⟨cl446, Ar446, q446, S446, N446v, H446, G446⟩ := id V_b41_390
                  have hin446 : ¬ ((5 : Int32) < 0 ∨ cl446.slots.size ≤ ((5 : Int32)).toNatClampNeg) := inb_of S446 ⟨by decide, by decide⟩
                  refine own_back (X390.aaload hx (j := (5 : Int32)) (v := (.ref as47)) (by rw [e390]; exact Ar446.1) (State.isArrayOf_alike hZ.alike Ar446.2.1) rfl Ar446.2.2 hin446 (Has.at H446 hin446 rfl) (g := (mkF m 113 #[.val (.int p0), .val (.ref b41)] [(.int (5 : Int32)), (.ref b41)])) rfl rfl (hb hby own_d2_113)) ?_
                  show own_End p e below s _ _ _ (T390.setTop (mkF m 114 #[.val (.int p0), .val (.ref b41)] [(.ref as47)])) (own_EH Z)
                  refine own_iloadN X390 hx (hb hby own_d2_114) rfl (q := 115) rfl ?_
                  refine own_bipush X390 hx (hb hby own_d2_115) (z := 7) rfl (q := 117) rfl ?_
                  refine own_iand X390 hx (hb hby own_d2_117) (q := 118) rfl ?_
                  obtain ⟨cq447, kq447, q447a, q447b, q447c⟩ := isOf hZ e390 Ea47_393
                  obtain ⟨T447, Lc447, L447, X447, N447, hQ447, st447⟩ := own_shutV (val := some (.int (((((own_sel (p0 &&& (7 : Int32)) (48 : Int32) (48 : Int32) (48 : Int32) (48 : Int32) (48 : Int32) (48 : Int32) (48 : Int32) (48 : Int32)) &&& (255 : Int32)).toUInt32.toUInt16.toUInt32.toInt32).toUInt32.toUInt16.toUInt32.toInt32).toUInt32.toUInt16.toUInt32.toInt32))) (Q := own_Q3 Z as47 (p0 &&& (7 : Int32)) ab47 ak47 (48 : Int32) (48 : Int32) (48 : Int32) (48 : Int32) (48 : Int32) (48 : Int32) (48 : Int32) (48 : Int32) cs sb h390 n0) (rc := 0) (rs := 0) N390 (fun _ _ _ q => ⟨q.1, q.2.1⟩) (X390.virtualBack hx (y := (⟨"java/lang/String", "charAt", "(I)C"⟩ : MethodName)) (z := (⟨"java/lang/String", "charAt", "(I)C"⟩ : MethodName)) hown (mvT hZ (hw _ (List.mem_of_getElem? (i := 23) rfl))) (mvT hZ (hw _ (List.mem_of_getElem? (i := 24) rfl))) (notFace_of_selects (args := #[]) (mvT hZ (hw _ (List.mem_of_getElem? (i := 26) rfl)))) (mvT hZ (hw _ (List.mem_of_getElem? (i := 26) rfl))) (mvT hZ (hw _ (List.mem_of_getElem? (i := 25) rfl))) (by decide) (backOf (W := 0) (own_rm3 l Z a0 hw [] as47 (p0 &&& (7 : Int32)) ab47 ak47 (48 : Int32) (48 : Int32) (48 : Int32) (48 : Int32) (48 : Int32) (48 : Int32) (48 : Int32) (48 : Int32) cs sb h390 n0 Z414 Ea47_393 Fv47_395 Fc47_394 Vb47_396 S_c_391 S_f_392 (by assumption : ¬ (cs = (0 : Int32))) (by assumption : sb = .null ∨ ∃ x, sb = .ref x) (by assumption : ¬ ((p0 &&& (7 : Int32)) < (0 : Int32))) (by assumption : (p0 &&& (7 : Int32)) < (8 : Int32))) hZ (hw _ (List.mem_of_getElem? (i := 27) rfl)) (hw _ (List.mem_of_getElem? (i := 11) rfl)) (by decide) (by decide)) q447a q447c (g := (mkF m 118 #[.val (.int p0), .val (.ref b41)] [(.int (p0 &&& (7 : Int32))), (.ref as47)])) rfl (by rw [hml]; rfl) (Steps.refl _) (argsL := [(.int (p0 &&& (7 : Int32)))]) (rest := []) (lenOf own_pd4 rfl) rfl (by show 2 * 0 + _ ≤ _; exact Nat.le_of_eq rfl) (hb hby own_d2_118) (fun _ _ => ⟨rfl, e390, (by decide : 11 + 0 ≤ _), (by decide : 196 + 0 ≤ _)⟩))
                  obtain ⟨-, -, e447⟩ := hQ447
                  refine own_via st447 ?_
                  show own_End p e below s _ _ _ (T447.setTop (mkF m 121 #[.val (.int p0), .val (.ref b41)] [(.int (((((own_sel (p0 &&& (7 : Int32)) (48 : Int32) (48 : Int32) (48 : Int32) (48 : Int32) (48 : Int32) (48 : Int32) (48 : Int32) (48 : Int32)) &&& (255 : Int32)).toUInt32.toUInt16.toUInt32.toInt32).toUInt32.toUInt16.toUInt32.toInt32).toUInt32.toUInt16.toUInt32.toInt32))])) (own_EH Z)
                  refine own_bipush X447 hx (hb hby own_d2_121) (z := 49) rfl (q := 123) rfl ?_
                  by_cases hc123_448 : (((((own_sel (p0 &&& (7 : Int32)) (48 : Int32) (48 : Int32) (48 : Int32) (48 : Int32) (48 : Int32) (48 : Int32) (48 : Int32) (48 : Int32)) &&& (255 : Int32)).toUInt32.toUInt16.toUInt32.toInt32).toUInt32.toUInt16.toUInt32.toInt32).toUInt32.toUInt16.toUInt32.toInt32) = (49 : Int32)
                  · refine own_icN X447 hx (hb hby own_d2_123) (teq hc123_448).2 (q := 126) rfl ?_
                    refine own_iconst X447 hx (hb hby own_d2_126) (z := 1) rfl (q := 127) rfl ?_
                    refine own_goto X447 hx (hb hby own_d2_127) (q := 131) (by decide) (by decide) ?_
                    refine own_retNH (s := s) (vm := T260.vm) X447 hx hS260 kZ414 e447 hh hZ (own_EW hw) CH390 (t := .boolean) (by simp) Bd.returns Bd.notSynchronized (by decide) (by decide) (hb hby own_d2_131) ?_
                    show own_Q2 Z p0 cs sb h0 n0 _ T447.heap _
                    rw [e447]
                    exact ⟨(by rw [show own_F2 p0 = _ from (by simp only [own_F2, if_neg hc1_38, if_pos hc8_40, if_neg hz415, if_neg hz421, if_neg hz427, if_neg hz433, if_neg hz439, if_pos hz445, if_pos hc123_448] : _ = (1 : Int32))]; rfl), N447, Kp413, trivial⟩
                  · refine own_icY X447 hx (hb hby own_d2_123) (feq hc123_448).2 (q := 130) (by decide) (by decide) ?_
                    refine own_iconst X447 hx (hb hby own_d2_130) (z := 0) rfl (q := 131) rfl ?_
                    refine own_retNH (s := s) (vm := T260.vm) X447 hx hS260 kZ414 e447 hh hZ (own_EW hw) CH390 (t := .boolean) (by simp) Bd.returns Bd.notSynchronized (by decide) (by decide) (hb hby own_d2_131) ?_
                    show own_Q2 Z p0 cs sb h0 n0 _ T447.heap _
                    rw [e447]
                    exact ⟨(by rw [show own_F2 p0 = _ from (by simp only [own_F2, if_neg hc1_38, if_pos hc8_40, if_neg hz415, if_neg hz421, if_neg hz427, if_neg hz433, if_neg hz439, if_pos hz445, if_neg hc123_448] : _ = (0 : Int32))]; rfl), N447, Kp413, trivial⟩
                · by_cases hz451 : (p0 >>> ((3 : Int32) &&& 31)) = (6 : Int32)
                  · rw [hz451]
                    obtain ⟨cl452, Ar452, q452, S452, N452v, H452, G452⟩ := id V_b41_390
                    have hin452 : ¬ ((6 : Int32) < 0 ∨ cl452.slots.size ≤ ((6 : Int32)).toNatClampNeg) := inb_of S452 ⟨by decide, by decide⟩
                    refine own_back (X390.aaload hx (j := (6 : Int32)) (v := (.ref as118)) (by rw [e390]; exact Ar452.1) (State.isArrayOf_alike hZ.alike Ar452.2.1) rfl Ar452.2.2 hin452 (Has.at H452 hin452 rfl) (g := (mkF m 113 #[.val (.int p0), .val (.ref b41)] [(.int (6 : Int32)), (.ref b41)])) rfl rfl (hb hby own_d2_113)) ?_
                    show own_End p e below s _ _ _ (T390.setTop (mkF m 114 #[.val (.int p0), .val (.ref b41)] [(.ref as118)])) (own_EH Z)
                    refine own_iloadN X390 hx (hb hby own_d2_114) rfl (q := 115) rfl ?_
                    refine own_bipush X390 hx (hb hby own_d2_115) (z := 7) rfl (q := 117) rfl ?_
                    refine own_iand X390 hx (hb hby own_d2_117) (q := 118) rfl ?_
                    obtain ⟨cq453, kq453, q453a, q453b, q453c⟩ := isOf hZ e390 Ea118_397
                    obtain ⟨T453, Lc453, L453, X453, N453, hQ453, st453⟩ := own_shutV (val := some (.int (((((own_sel (p0 &&& (7 : Int32)) (49 : Int32) (49 : Int32) (49 : Int32) (49 : Int32) (49 : Int32) (49 : Int32) (49 : Int32) (49 : Int32)) &&& (255 : Int32)).toUInt32.toUInt16.toUInt32.toInt32).toUInt32.toUInt16.toUInt32.toInt32).toUInt32.toUInt16.toUInt32.toInt32))) (Q := own_Q3 Z as118 (p0 &&& (7 : Int32)) ab118 ak118 (49 : Int32) (49 : Int32) (49 : Int32) (49 : Int32) (49 : Int32) (49 : Int32) (49 : Int32) (49 : Int32) cs sb h390 n0) (rc := 0) (rs := 0) N390 (fun _ _ _ q => ⟨q.1, q.2.1⟩) (X390.virtualBack hx (y := (⟨"java/lang/String", "charAt", "(I)C"⟩ : MethodName)) (z := (⟨"java/lang/String", "charAt", "(I)C"⟩ : MethodName)) hown (mvT hZ (hw _ (List.mem_of_getElem? (i := 23) rfl))) (mvT hZ (hw _ (List.mem_of_getElem? (i := 24) rfl))) (notFace_of_selects (args := #[]) (mvT hZ (hw _ (List.mem_of_getElem? (i := 26) rfl)))) (mvT hZ (hw _ (List.mem_of_getElem? (i := 26) rfl))) (mvT hZ (hw _ (List.mem_of_getElem? (i := 25) rfl))) (by decide) (backOf (W := 0) (own_rm3 l Z a0 hw [] as118 (p0 &&& (7 : Int32)) ab118 ak118 (49 : Int32) (49 : Int32) (49 : Int32) (49 : Int32) (49 : Int32) (49 : Int32) (49 : Int32) (49 : Int32) cs sb h390 n0 Z414 Ea118_397 Fv118_399 Fc118_398 Vb118_400 S_c_391 S_f_392 (by assumption : ¬ (cs = (0 : Int32))) (by assumption : sb = .null ∨ ∃ x, sb = .ref x) (by assumption : ¬ ((p0 &&& (7 : Int32)) < (0 : Int32))) (by assumption : (p0 &&& (7 : Int32)) < (8 : Int32))) hZ (hw _ (List.mem_of_getElem? (i := 27) rfl)) (hw _ (List.mem_of_getElem? (i := 11) rfl)) (by decide) (by decide)) q453a q453c (g := (mkF m 118 #[.val (.int p0), .val (.ref b41)] [(.int (p0 &&& (7 : Int32))), (.ref as118)])) rfl (by rw [hml]; rfl) (Steps.refl _) (argsL := [(.int (p0 &&& (7 : Int32)))]) (rest := []) (lenOf own_pd4 rfl) rfl (by show 2 * 0 + _ ≤ _; exact Nat.le_of_eq rfl) (hb hby own_d2_118) (fun _ _ => ⟨rfl, e390, (by decide : 11 + 0 ≤ _), (by decide : 196 + 0 ≤ _)⟩))
                    obtain ⟨-, -, e453⟩ := hQ453
                    refine own_via st453 ?_
                    show own_End p e below s _ _ _ (T453.setTop (mkF m 121 #[.val (.int p0), .val (.ref b41)] [(.int (((((own_sel (p0 &&& (7 : Int32)) (49 : Int32) (49 : Int32) (49 : Int32) (49 : Int32) (49 : Int32) (49 : Int32) (49 : Int32) (49 : Int32)) &&& (255 : Int32)).toUInt32.toUInt16.toUInt32.toInt32).toUInt32.toUInt16.toUInt32.toInt32).toUInt32.toUInt16.toUInt32.toInt32))])) (own_EH Z)
                    refine own_bipush X453 hx (hb hby own_d2_121) (z := 49) rfl (q := 123) rfl ?_
                    by_cases hc123_454 : (((((own_sel (p0 &&& (7 : Int32)) (49 : Int32) (49 : Int32) (49 : Int32) (49 : Int32) (49 : Int32) (49 : Int32) (49 : Int32) (49 : Int32)) &&& (255 : Int32)).toUInt32.toUInt16.toUInt32.toInt32).toUInt32.toUInt16.toUInt32.toInt32).toUInt32.toUInt16.toUInt32.toInt32) = (49 : Int32)
                    · refine own_icN X453 hx (hb hby own_d2_123) (teq hc123_454).2 (q := 126) rfl ?_
                      refine own_iconst X453 hx (hb hby own_d2_126) (z := 1) rfl (q := 127) rfl ?_
                      refine own_goto X453 hx (hb hby own_d2_127) (q := 131) (by decide) (by decide) ?_
                      refine own_retNH (s := s) (vm := T260.vm) X453 hx hS260 kZ414 e453 hh hZ (own_EW hw) CH390 (t := .boolean) (by simp) Bd.returns Bd.notSynchronized (by decide) (by decide) (hb hby own_d2_131) ?_
                      show own_Q2 Z p0 cs sb h0 n0 _ T453.heap _
                      rw [e453]
                      exact ⟨(by rw [show own_F2 p0 = _ from (by simp only [own_F2, if_neg hc1_38, if_pos hc8_40, if_neg hz415, if_neg hz421, if_neg hz427, if_neg hz433, if_neg hz439, if_neg hz445, if_pos hz451, if_pos hc123_454] : _ = (1 : Int32))]; rfl), N453, Kp413, trivial⟩
                    · refine own_icY X453 hx (hb hby own_d2_123) (feq hc123_454).2 (q := 130) (by decide) (by decide) ?_
                      refine own_iconst X453 hx (hb hby own_d2_130) (z := 0) rfl (q := 131) rfl ?_
                      refine own_retNH (s := s) (vm := T260.vm) X453 hx hS260 kZ414 e453 hh hZ (own_EW hw) CH390 (t := .boolean) (by simp) Bd.returns Bd.notSynchronized (by decide) (by decide) (hb hby own_d2_131) ?_
                      show own_Q2 Z p0 cs sb h0 n0 _ T453.heap _
                      rw [e453]
                      exact ⟨(by rw [show own_F2 p0 = _ from (by simp only [own_F2, if_neg hc1_38, if_pos hc8_40, if_neg hz415, if_neg hz421, if_neg hz427, if_neg hz433, if_neg hz439, if_neg hz445, if_pos hz451, if_neg hc123_454] : _ = (0 : Int32))]; rfl), N453, Kp413, trivial⟩
                  · by_cases hz457 : (p0 >>> ((3 : Int32) &&& 31)) = (7 : Int32)
                    · rw [hz457]
                      obtain ⟨cl458, Ar458, q458, S458, N458v, H458, G458⟩ := id V_b41_390
                      have hin458 : ¬ ((7 : Int32) < 0 ∨ cl458.slots.size ≤ ((7 : Int32)).toNatClampNeg) := inb_of S458 ⟨by decide, by decide⟩
                      refine own_back (X390.aaload hx (j := (7 : Int32)) (v := (.ref as142)) (by rw [e390]; exact Ar458.1) (State.isArrayOf_alike hZ.alike Ar458.2.1) rfl Ar458.2.2 hin458 (Has.at H458 hin458 rfl) (g := (mkF m 113 #[.val (.int p0), .val (.ref b41)] [(.int (7 : Int32)), (.ref b41)])) rfl rfl (hb hby own_d2_113)) ?_
                      show own_End p e below s _ _ _ (T390.setTop (mkF m 114 #[.val (.int p0), .val (.ref b41)] [(.ref as142)])) (own_EH Z)
                      refine own_iloadN X390 hx (hb hby own_d2_114) rfl (q := 115) rfl ?_
                      refine own_bipush X390 hx (hb hby own_d2_115) (z := 7) rfl (q := 117) rfl ?_
                      refine own_iand X390 hx (hb hby own_d2_117) (q := 118) rfl ?_
                      obtain ⟨cq459, kq459, q459a, q459b, q459c⟩ := isOf hZ e390 Ea142_401
                      obtain ⟨T459, Lc459, L459, X459, N459, hQ459, st459⟩ := own_shutV (val := some (.int (((((own_sel (p0 &&& (7 : Int32)) (49 : Int32) (49 : Int32) (48 : Int32) (48 : Int32) (48 : Int32) (48 : Int32) (48 : Int32) (48 : Int32)) &&& (255 : Int32)).toUInt32.toUInt16.toUInt32.toInt32).toUInt32.toUInt16.toUInt32.toInt32).toUInt32.toUInt16.toUInt32.toInt32))) (Q := own_Q3 Z as142 (p0 &&& (7 : Int32)) ab142 ak142 (49 : Int32) (49 : Int32) (48 : Int32) (48 : Int32) (48 : Int32) (48 : Int32) (48 : Int32) (48 : Int32) cs sb h390 n0) (rc := 0) (rs := 0) N390 (fun _ _ _ q => ⟨q.1, q.2.1⟩) (X390.virtualBack hx (y := (⟨"java/lang/String", "charAt", "(I)C"⟩ : MethodName)) (z := (⟨"java/lang/String", "charAt", "(I)C"⟩ : MethodName)) hown (mvT hZ (hw _ (List.mem_of_getElem? (i := 23) rfl))) (mvT hZ (hw _ (List.mem_of_getElem? (i := 24) rfl))) (notFace_of_selects (args := #[]) (mvT hZ (hw _ (List.mem_of_getElem? (i := 26) rfl)))) (mvT hZ (hw _ (List.mem_of_getElem? (i := 26) rfl))) (mvT hZ (hw _ (List.mem_of_getElem? (i := 25) rfl))) (by decide) (backOf (W := 0) (own_rm3 l Z a0 hw [] as142 (p0 &&& (7 : Int32)) ab142 ak142 (49 : Int32) (49 : Int32) (48 : Int32) (48 : Int32) (48 : Int32) (48 : Int32) (48 : Int32) (48 : Int32) cs sb h390 n0 Z414 Ea142_401 Fv142_403 Fc142_402 Vb142_404 S_c_391 S_f_392 (by assumption : ¬ (cs = (0 : Int32))) (by assumption : sb = .null ∨ ∃ x, sb = .ref x) (by assumption : ¬ ((p0 &&& (7 : Int32)) < (0 : Int32))) (by assumption : (p0 &&& (7 : Int32)) < (8 : Int32))) hZ (hw _ (List.mem_of_getElem? (i := 27) rfl)) (hw _ (List.mem_of_getElem? (i := 11) rfl)) (by decide) (by decide)) q459a q459c (g := (mkF m 118 #[.val (.int p0), .val (.ref b41)] [(.int (p0 &&& (7 : Int32))), (.ref as142)])) rfl (by rw [hml]; rfl) (Steps.refl _) (argsL := [(.int (p0 &&& (7 : Int32)))]) (rest := []) (lenOf own_pd4 rfl) rfl (by show 2 * 0 + _ ≤ _; exact Nat.le_of_eq rfl) (hb hby own_d2_118) (fun _ _ => ⟨rfl, e390, (by decide : 11 + 0 ≤ _), (by decide : 196 + 0 ≤ _)⟩))
                      obtain ⟨-, -, e459⟩ := hQ459
                      refine own_via st459 ?_
                      show own_End p e below s _ _ _ (T459.setTop (mkF m 121 #[.val (.int p0), .val (.ref b41)] [(.int (((((own_sel (p0 &&& (7 : Int32)) (49 : Int32) (49 : Int32) (48 : Int32) (48 : Int32) (48 : Int32) (48 : Int32) (48 : Int32) (48 : Int32)) &&& (255 : Int32)).toUInt32.toUInt16.toUInt32.toInt32).toUInt32.toUInt16.toUInt32.toInt32).toUInt32.toUInt16.toUInt32.toInt32))])) (own_EH Z)
                      refine own_bipush X459 hx (hb hby own_d2_121) (z := 49) rfl (q := 123) rfl ?_
                      by_cases hc123_460 : (((((own_sel (p0 &&& (7 : Int32)) (49 : Int32) (49 : Int32) (48 : Int32) (48 : Int32) (48 : Int32) (48 : Int32) (48 : Int32) (48 : Int32)) &&& (255 : Int32)).toUInt32.toUInt16.toUInt32.toInt32).toUInt32.toUInt16.toUInt32.toInt32).toUInt32.toUInt16.toUInt32.toInt32) = (49 : Int32)
                      · refine own_icN X459 hx (hb hby own_d2_123) (teq hc123_460).2 (q := 126) rfl ?_
                        refine own_iconst X459 hx (hb hby own_d2_126) (z := 1) rfl (q := 127) rfl ?_
                        refine own_goto X459 hx (hb hby own_d2_127) (q := 131) (by decide) (by decide) ?_
                        refine own_retNH (s := s) (vm := T260.vm) X459 hx hS260 kZ414 e459 hh hZ (own_EW hw) CH390 (t := .boolean) (by simp) Bd.returns Bd.notSynchronized (by decide) (by decide) (hb hby own_d2_131) ?_
                        show own_Q2 Z p0 cs sb h0 n0 _ T459.heap _
                        rw [e459]
                        exact ⟨(by rw [show own_F2 p0 = _ from (by simp only [own_F2, if_neg hc1_38, if_pos hc8_40, if_neg hz415, if_neg hz421, if_neg hz427, if_neg hz433, if_neg hz439, if_neg hz445, if_neg hz451, if_pos hz457, if_pos hc123_460] : _ = (1 : Int32))]; rfl), N459, Kp413, trivial⟩
                      · refine own_icY X459 hx (hb hby own_d2_123) (feq hc123_460).2 (q := 130) (by decide) (by decide) ?_
                        refine own_iconst X459 hx (hb hby own_d2_130) (z := 0) rfl (q := 131) rfl ?_
                        refine own_retNH (s := s) (vm := T260.vm) X459 hx hS260 kZ414 e459 hh hZ (own_EW hw) CH390 (t := .boolean) (by simp) Bd.returns Bd.notSynchronized (by decide) (by decide) (hb hby own_d2_131) ?_
                        show own_Q2 Z p0 cs sb h0 n0 _ T459.heap _
                        rw [e459]
                        exact ⟨(by rw [show own_F2 p0 = _ from (by simp only [own_F2, if_neg hc1_38, if_pos hc8_40, if_neg hz415, if_neg hz421, if_neg hz427, if_neg hz433, if_neg hz439, if_neg hz445, if_neg hz451, if_pos hz457, if_neg hc123_460] : _ = (0 : Int32))]; rfl), N459, Kp413, trivial⟩
                    · by_cases hz463 : (p0 >>> ((3 : Int32) &&& 31)) = (8 : Int32)
                      · rw [hz463]
                        obtain ⟨cl464, Ar464, q464, S464, N464v, H464, G464⟩ := id V_b41_390
                        have hin464 : ¬ ((8 : Int32) < 0 ∨ cl464.slots.size ≤ ((8 : Int32)).toNatClampNeg) := inb_of S464 ⟨by decide, by decide⟩
                        refine own_back (X390.aaload hx (j := (8 : Int32)) (v := (.ref as174)) (by rw [e390]; exact Ar464.1) (State.isArrayOf_alike hZ.alike Ar464.2.1) rfl Ar464.2.2 hin464 (Has.at H464 hin464 rfl) (g := (mkF m 113 #[.val (.int p0), .val (.ref b41)] [(.int (8 : Int32)), (.ref b41)])) rfl rfl (hb hby own_d2_113)) ?_
                        show own_End p e below s _ _ _ (T390.setTop (mkF m 114 #[.val (.int p0), .val (.ref b41)] [(.ref as174)])) (own_EH Z)
                        refine own_iloadN X390 hx (hb hby own_d2_114) rfl (q := 115) rfl ?_
                        refine own_bipush X390 hx (hb hby own_d2_115) (z := 7) rfl (q := 117) rfl ?_
                        refine own_iand X390 hx (hb hby own_d2_117) (q := 118) rfl ?_
                        obtain ⟨cq465, kq465, q465a, q465b, q465c⟩ := isOf hZ e390 Ea174_405
                        obtain ⟨T465, Lc465, L465, X465, N465, hQ465, st465⟩ := own_shutV (val := some (.int (((((own_sel (p0 &&& (7 : Int32)) (48 : Int32) (49 : Int32) (49 : Int32) (49 : Int32) (49 : Int32) (49 : Int32) (49 : Int32) (49 : Int32)) &&& (255 : Int32)).toUInt32.toUInt16.toUInt32.toInt32).toUInt32.toUInt16.toUInt32.toInt32).toUInt32.toUInt16.toUInt32.toInt32))) (Q := own_Q3 Z as174 (p0 &&& (7 : Int32)) ab174 ak174 (48 : Int32) (49 : Int32) (49 : Int32) (49 : Int32) (49 : Int32) (49 : Int32) (49 : Int32) (49 : Int32) cs sb h390 n0) (rc := 0) (rs := 0) N390 (fun _ _ _ q => ⟨q.1, q.2.1⟩) (X390.virtualBack hx (y := (⟨"java/lang/String", "charAt", "(I)C"⟩ : MethodName)) (z := (⟨"java/lang/String", "charAt", "(I)C"⟩ : MethodName)) hown (mvT hZ (hw _ (List.mem_of_getElem? (i := 23) rfl))) (mvT hZ (hw _ (List.mem_of_getElem? (i := 24) rfl))) (notFace_of_selects (args := #[]) (mvT hZ (hw _ (List.mem_of_getElem? (i := 26) rfl)))) (mvT hZ (hw _ (List.mem_of_getElem? (i := 26) rfl))) (mvT hZ (hw _ (List.mem_of_getElem? (i := 25) rfl))) (by decide) (backOf (W := 0) (own_rm3 l Z a0 hw [] as174 (p0 &&& (7 : Int32)) ab174 ak174 (48 : Int32) (49 : Int32) (49 : Int32) (49 : Int32) (49 : Int32) (49 : Int32) (49 : Int32) (49 : Int32) cs sb h390 n0 Z414 Ea174_405 Fv174_407 Fc174_406 Vb174_408 S_c_391 S_f_392 (by assumption : ¬ (cs = (0 : Int32))) (by assumption : sb = .null ∨ ∃ x, sb = .ref x) (by assumption : ¬ ((p0 &&& (7 : Int32)) < (0 : Int32))) (by assumption : (p0 &&& (7 : Int32)) < (8 : Int32))) hZ (hw _ (List.mem_of_getElem? (i := 27) rfl)) (hw _ (List.mem_of_getElem? (i := 11) rfl)) (by decide) (by decide)) q465a q465c (g := (mkF m 118 #[.val (.int p0), .val (.ref b41)] [(.int (p0 &&& (7 : Int32))), (.ref as174)])) rfl (by rw [hml]; rfl) (Steps.refl _) (argsL := [(.int (p0 &&& (7 : Int32)))]) (rest := []) (lenOf own_pd4 rfl) rfl (by show 2 * 0 + _ ≤ _; exact Nat.le_of_eq rfl) (hb hby own_d2_118) (fun _ _ => ⟨rfl, e390, (by decide : 11 + 0 ≤ _), (by decide : 196 + 0 ≤ _)⟩))
                        obtain ⟨-, -, e465⟩ := hQ465
                        refine own_via st465 ?_
                        show own_End p e below s _ _ _ (T465.setTop (mkF m 121 #[.val (.int p0), .val (.ref b41)] [(.int (((((own_sel (p0 &&& (7 : Int32)) (48 : Int32) (49 : Int32) (49 : Int32) (49 : Int32) (49 : Int32) (49 : Int32) (49 : Int32) (49 : Int32)) &&& (255 : Int32)).toUInt32.toUInt16.toUInt32.toInt32).toUInt32.toUInt16.toUInt32.toInt32).toUInt32.toUInt16.toUInt32.toInt32))])) (own_EH Z)
                        refine own_bipush X465 hx (hb hby own_d2_121) (z := 49) rfl (q := 123) rfl ?_
                        by_cases hc123_466 : (((((own_sel (p0 &&& (7 : Int32)) (48 : Int32) (49 : Int32) (49 : Int32) (49 : Int32) (49 : Int32) (49 : Int32) (49 : Int32) (49 : Int32)) &&& (255 : Int32)).toUInt32.toUInt16.toUInt32.toInt32).toUInt32.toUInt16.toUInt32.toInt32).toUInt32.toUInt16.toUInt32.toInt32) = (49 : Int32)
                        · refine own_icN X465 hx (hb hby own_d2_123) (teq hc123_466).2 (q := 126) rfl ?_
                          refine own_iconst X465 hx (hb hby own_d2_126) (z := 1) rfl (q := 127) rfl ?_
                          refine own_goto X465 hx (hb hby own_d2_127) (q := 131) (by decide) (by decide) ?_
                          refine own_retNH (s := s) (vm := T260.vm) X465 hx hS260 kZ414 e465 hh hZ (own_EW hw) CH390 (t := .boolean) (by simp) Bd.returns Bd.notSynchronized (by decide) (by decide) (hb hby own_d2_131) ?_
                          show own_Q2 Z p0 cs sb h0 n0 _ T465.heap _
                          rw [e465]
                          exact ⟨(by rw [show own_F2 p0 = _ from (by simp only [own_F2, if_neg hc1_38, if_pos hc8_40, if_neg hz415, if_neg hz421, if_neg hz427, if_neg hz433, if_neg hz439, if_neg hz445, if_neg hz451, if_neg hz457, if_pos hz463, if_pos hc123_466] : _ = (1 : Int32))]; rfl), N465, Kp413, trivial⟩
                        · refine own_icY X465 hx (hb hby own_d2_123) (feq hc123_466).2 (q := 130) (by decide) (by decide) ?_
                          refine own_iconst X465 hx (hb hby own_d2_130) (z := 0) rfl (q := 131) rfl ?_
                          refine own_retNH (s := s) (vm := T260.vm) X465 hx hS260 kZ414 e465 hh hZ (own_EW hw) CH390 (t := .boolean) (by simp) Bd.returns Bd.notSynchronized (by decide) (by decide) (hb hby own_d2_131) ?_
                          show own_Q2 Z p0 cs sb h0 n0 _ T465.heap _
                          rw [e465]
                          exact ⟨(by rw [show own_F2 p0 = _ from (by simp only [own_F2, if_neg hc1_38, if_pos hc8_40, if_neg hz415, if_neg hz421, if_neg hz427, if_neg hz433, if_neg hz439, if_neg hz445, if_neg hz451, if_neg hz457, if_pos hz463, if_neg hc123_466] : _ = (0 : Int32))]; rfl), N465, Kp413, trivial⟩
                      · by_cases hz469 : (p0 >>> ((3 : Int32) &&& 31)) = (9 : Int32)
                        · rw [hz469]
                          obtain ⟨cl470, Ar470, q470, S470, N470v, H470, G470⟩ := id V_b41_390
                          have hin470 : ¬ ((9 : Int32) < 0 ∨ cl470.slots.size ≤ ((9 : Int32)).toNatClampNeg) := inb_of S470 ⟨by decide, by decide⟩
                          refine own_back (X390.aaload hx (j := (9 : Int32)) (v := (.ref as118)) (by rw [e390]; exact Ar470.1) (State.isArrayOf_alike hZ.alike Ar470.2.1) rfl Ar470.2.2 hin470 (Has.at H470 hin470 rfl) (g := (mkF m 113 #[.val (.int p0), .val (.ref b41)] [(.int (9 : Int32)), (.ref b41)])) rfl rfl (hb hby own_d2_113)) ?_
                          show own_End p e below s _ _ _ (T390.setTop (mkF m 114 #[.val (.int p0), .val (.ref b41)] [(.ref as118)])) (own_EH Z)
                          refine own_iloadN X390 hx (hb hby own_d2_114) rfl (q := 115) rfl ?_
                          refine own_bipush X390 hx (hb hby own_d2_115) (z := 7) rfl (q := 117) rfl ?_
                          refine own_iand X390 hx (hb hby own_d2_117) (q := 118) rfl ?_
                          obtain ⟨cq471, kq471, q471a, q471b, q471c⟩ := isOf hZ e390 Ea118_397
                          obtain ⟨T471, Lc471, L471, X471, N471, hQ471, st471⟩ := own_shutV (val := some (.int (((((own_sel (p0 &&& (7 : Int32)) (49 : Int32) (49 : Int32) (49 : Int32) (49 : Int32) (49 : Int32) (49 : Int32) (49 : Int32) (49 : Int32)) &&& (255 : Int32)).toUInt32.toUInt16.toUInt32.toInt32).toUInt32.toUInt16.toUInt32.toInt32).toUInt32.toUInt16.toUInt32.toInt32))) (Q := own_Q3 Z as118 (p0 &&& (7 : Int32)) ab118 ak118 (49 : Int32) (49 : Int32) (49 : Int32) (49 : Int32) (49 : Int32) (49 : Int32) (49 : Int32) (49 : Int32) cs sb h390 n0) (rc := 0) (rs := 0) N390 (fun _ _ _ q => ⟨q.1, q.2.1⟩) (X390.virtualBack hx (y := (⟨"java/lang/String", "charAt", "(I)C"⟩ : MethodName)) (z := (⟨"java/lang/String", "charAt", "(I)C"⟩ : MethodName)) hown (mvT hZ (hw _ (List.mem_of_getElem? (i := 23) rfl))) (mvT hZ (hw _ (List.mem_of_getElem? (i := 24) rfl))) (notFace_of_selects (args := #[]) (mvT hZ (hw _ (List.mem_of_getElem? (i := 26) rfl)))) (mvT hZ (hw _ (List.mem_of_getElem? (i := 26) rfl))) (mvT hZ (hw _ (List.mem_of_getElem? (i := 25) rfl))) (by decide) (backOf (W := 0) (own_rm3 l Z a0 hw [] as118 (p0 &&& (7 : Int32)) ab118 ak118 (49 : Int32) (49 : Int32) (49 : Int32) (49 : Int32) (49 : Int32) (49 : Int32) (49 : Int32) (49 : Int32) cs sb h390 n0 Z414 Ea118_397 Fv118_399 Fc118_398 Vb118_400 S_c_391 S_f_392 (by assumption : ¬ (cs = (0 : Int32))) (by assumption : sb = .null ∨ ∃ x, sb = .ref x) (by assumption : ¬ ((p0 &&& (7 : Int32)) < (0 : Int32))) (by assumption : (p0 &&& (7 : Int32)) < (8 : Int32))) hZ (hw _ (List.mem_of_getElem? (i := 27) rfl)) (hw _ (List.mem_of_getElem? (i := 11) rfl)) (by decide) (by decide)) q471a q471c (g := (mkF m 118 #[.val (.int p0), .val (.ref b41)] [(.int (p0 &&& (7 : Int32))), (.ref as118)])) rfl (by rw [hml]; rfl) (Steps.refl _) (argsL := [(.int (p0 &&& (7 : Int32)))]) (rest := []) (lenOf own_pd4 rfl) rfl (by show 2 * 0 + _ ≤ _; exact Nat.le_of_eq rfl) (hb hby own_d2_118) (fun _ _ => ⟨rfl, e390, (by decide : 11 + 0 ≤ _), (by decide : 196 + 0 ≤ _)⟩))
                          obtain ⟨-, -, e471⟩ := hQ471
                          refine own_via st471 ?_
                          show own_End p e below s _ _ _ (T471.setTop (mkF m 121 #[.val (.int p0), .val (.ref b41)] [(.int (((((own_sel (p0 &&& (7 : Int32)) (49 : Int32) (49 : Int32) (49 : Int32) (49 : Int32) (49 : Int32) (49 : Int32) (49 : Int32) (49 : Int32)) &&& (255 : Int32)).toUInt32.toUInt16.toUInt32.toInt32).toUInt32.toUInt16.toUInt32.toInt32).toUInt32.toUInt16.toUInt32.toInt32))])) (own_EH Z)
                          refine own_bipush X471 hx (hb hby own_d2_121) (z := 49) rfl (q := 123) rfl ?_
                          by_cases hc123_472 : (((((own_sel (p0 &&& (7 : Int32)) (49 : Int32) (49 : Int32) (49 : Int32) (49 : Int32) (49 : Int32) (49 : Int32) (49 : Int32) (49 : Int32)) &&& (255 : Int32)).toUInt32.toUInt16.toUInt32.toInt32).toUInt32.toUInt16.toUInt32.toInt32).toUInt32.toUInt16.toUInt32.toInt32) = (49 : Int32)
                          · refine own_icN X471 hx (hb hby own_d2_123) (teq hc123_472).2 (q := 126) rfl ?_
                            refine own_iconst X471 hx (hb hby own_d2_126) (z := 1) rfl (q := 127) rfl ?_
                            refine own_goto X471 hx (hb hby own_d2_127) (q := 131) (by decide) (by decide) ?_
                            refine own_retNH (s := s) (vm := T260.vm) X471 hx hS260 kZ414 e471 hh hZ (own_EW hw) CH390 (t := .boolean) (by simp) Bd.returns Bd.notSynchronized (by decide) (by decide) (hb hby own_d2_131) ?_
                            show own_Q2 Z p0 cs sb h0 n0 _ T471.heap _
                            rw [e471]
                            exact ⟨(by rw [show own_F2 p0 = _ from (by simp only [own_F2, if_neg hc1_38, if_pos hc8_40, if_neg hz415, if_neg hz421, if_neg hz427, if_neg hz433, if_neg hz439, if_neg hz445, if_neg hz451, if_neg hz457, if_neg hz463, if_pos hz469, if_pos hc123_472] : _ = (1 : Int32))]; rfl), N471, Kp413, trivial⟩
                          · refine own_icY X471 hx (hb hby own_d2_123) (feq hc123_472).2 (q := 130) (by decide) (by decide) ?_
                            refine own_iconst X471 hx (hb hby own_d2_130) (z := 0) rfl (q := 131) rfl ?_
                            refine own_retNH (s := s) (vm := T260.vm) X471 hx hS260 kZ414 e471 hh hZ (own_EW hw) CH390 (t := .boolean) (by simp) Bd.returns Bd.notSynchronized (by decide) (by decide) (hb hby own_d2_131) ?_
                            show own_Q2 Z p0 cs sb h0 n0 _ T471.heap _
                            rw [e471]
                            exact ⟨(by rw [show own_F2 p0 = _ from (by simp only [own_F2, if_neg hc1_38, if_pos hc8_40, if_neg hz415, if_neg hz421, if_neg hz427, if_neg hz433, if_neg hz439, if_neg hz445, if_neg hz451, if_neg hz457, if_neg hz463, if_pos hz469, if_neg hc123_472] : _ = (0 : Int32))]; rfl), N471, Kp413, trivial⟩
                        · by_cases hz475 : (p0 >>> ((3 : Int32) &&& 31)) = (10 : Int32)
                          · rw [hz475]
                            obtain ⟨cl476, Ar476, q476, S476, N476v, H476, G476⟩ := id V_b41_390
                            have hin476 : ¬ ((10 : Int32) < 0 ∨ cl476.slots.size ≤ ((10 : Int32)).toNatClampNeg) := inb_of S476 ⟨by decide, by decide⟩
                            refine own_back (X390.aaload hx (j := (10 : Int32)) (v := (.ref as118)) (by rw [e390]; exact Ar476.1) (State.isArrayOf_alike hZ.alike Ar476.2.1) rfl Ar476.2.2 hin476 (Has.at H476 hin476 rfl) (g := (mkF m 113 #[.val (.int p0), .val (.ref b41)] [(.int (10 : Int32)), (.ref b41)])) rfl rfl (hb hby own_d2_113)) ?_
                            show own_End p e below s _ _ _ (T390.setTop (mkF m 114 #[.val (.int p0), .val (.ref b41)] [(.ref as118)])) (own_EH Z)
                            refine own_iloadN X390 hx (hb hby own_d2_114) rfl (q := 115) rfl ?_
                            refine own_bipush X390 hx (hb hby own_d2_115) (z := 7) rfl (q := 117) rfl ?_
                            refine own_iand X390 hx (hb hby own_d2_117) (q := 118) rfl ?_
                            obtain ⟨cq477, kq477, q477a, q477b, q477c⟩ := isOf hZ e390 Ea118_397
                            obtain ⟨T477, Lc477, L477, X477, N477, hQ477, st477⟩ := own_shutV (val := some (.int (((((own_sel (p0 &&& (7 : Int32)) (49 : Int32) (49 : Int32) (49 : Int32) (49 : Int32) (49 : Int32) (49 : Int32) (49 : Int32) (49 : Int32)) &&& (255 : Int32)).toUInt32.toUInt16.toUInt32.toInt32).toUInt32.toUInt16.toUInt32.toInt32).toUInt32.toUInt16.toUInt32.toInt32))) (Q := own_Q3 Z as118 (p0 &&& (7 : Int32)) ab118 ak118 (49 : Int32) (49 : Int32) (49 : Int32) (49 : Int32) (49 : Int32) (49 : Int32) (49 : Int32) (49 : Int32) cs sb h390 n0) (rc := 0) (rs := 0) N390 (fun _ _ _ q => ⟨q.1, q.2.1⟩) (X390.virtualBack hx (y := (⟨"java/lang/String", "charAt", "(I)C"⟩ : MethodName)) (z := (⟨"java/lang/String", "charAt", "(I)C"⟩ : MethodName)) hown (mvT hZ (hw _ (List.mem_of_getElem? (i := 23) rfl))) (mvT hZ (hw _ (List.mem_of_getElem? (i := 24) rfl))) (notFace_of_selects (args := #[]) (mvT hZ (hw _ (List.mem_of_getElem? (i := 26) rfl)))) (mvT hZ (hw _ (List.mem_of_getElem? (i := 26) rfl))) (mvT hZ (hw _ (List.mem_of_getElem? (i := 25) rfl))) (by decide) (backOf (W := 0) (own_rm3 l Z a0 hw [] as118 (p0 &&& (7 : Int32)) ab118 ak118 (49 : Int32) (49 : Int32) (49 : Int32) (49 : Int32) (49 : Int32) (49 : Int32) (49 : Int32) (49 : Int32) cs sb h390 n0 Z414 Ea118_397 Fv118_399 Fc118_398 Vb118_400 S_c_391 S_f_392 (by assumption : ¬ (cs = (0 : Int32))) (by assumption : sb = .null ∨ ∃ x, sb = .ref x) (by assumption : ¬ ((p0 &&& (7 : Int32)) < (0 : Int32))) (by assumption : (p0 &&& (7 : Int32)) < (8 : Int32))) hZ (hw _ (List.mem_of_getElem? (i := 27) rfl)) (hw _ (List.mem_of_getElem? (i := 11) rfl)) (by decide) (by decide)) q477a q477c (g := (mkF m 118 #[.val (.int p0), .val (.ref b41)] [(.int (p0 &&& (7 : Int32))), (.ref as118)])) rfl (by rw [hml]; rfl) (Steps.refl _) (argsL := [(.int (p0 &&& (7 : Int32)))]) (rest := []) (lenOf own_pd4 rfl) rfl (by show 2 * 0 + _ ≤ _; exact Nat.le_of_eq rfl) (hb hby own_d2_118) (fun _ _ => ⟨rfl, e390, (by decide : 11 + 0 ≤ _), (by decide : 196 + 0 ≤ _)⟩))
                            obtain ⟨-, -, e477⟩ := hQ477
                            refine own_via st477 ?_
                            show own_End p e below s _ _ _ (T477.setTop (mkF m 121 #[.val (.int p0), .val (.ref b41)] [(.int (((((own_sel (p0 &&& (7 : Int32)) (49 : Int32) (49 : Int32) (49 : Int32) (49 : Int32) (49 : Int32) (49 : Int32) (49 : Int32) (49 : Int32)) &&& (255 : Int32)).toUInt32.toUInt16.toUInt32.toInt32).toUInt32.toUInt16.toUInt32.toInt32).toUInt32.toUInt16.toUInt32.toInt32))])) (own_EH Z)
                            refine own_bipush X477 hx (hb hby own_d2_121) (z := 49) rfl (q := 123) rfl ?_
                            by_cases hc123_478 : (((((own_sel (p0 &&& (7 : Int32)) (49 : Int32) (49 : Int32) (49 : Int32) (49 : Int32) (49 : Int32) (49 : Int32) (49 : Int32) (49 : Int32)) &&& (255 : Int32)).toUInt32.toUInt16.toUInt32.toInt32).toUInt32.toUInt16.toUInt32.toInt32).toUInt32.toUInt16.toUInt32.toInt32) = (49 : Int32)
                            · refine own_icN X477 hx (hb hby own_d2_123) (teq hc123_478).2 (q := 126) rfl ?_
                              refine own_iconst X477 hx (hb hby own_d2_126) (z := 1) rfl (q := 127) rfl ?_
                              refine own_goto X477 hx (hb hby own_d2_127) (q := 131) (by decide) (by decide) ?_
                              refine own_retNH (s := s) (vm := T260.vm) X477 hx hS260 kZ414 e477 hh hZ (own_EW hw) CH390 (t := .boolean) (by simp) Bd.returns Bd.notSynchronized (by decide) (by decide) (hb hby own_d2_131) ?_
                              show own_Q2 Z p0 cs sb h0 n0 _ T477.heap _
                              rw [e477]
                              exact ⟨(by rw [show own_F2 p0 = _ from (by simp only [own_F2, if_neg hc1_38, if_pos hc8_40, if_neg hz415, if_neg hz421, if_neg hz427, if_neg hz433, if_neg hz439, if_neg hz445, if_neg hz451, if_neg hz457, if_neg hz463, if_neg hz469, if_pos hz475, if_pos hc123_478] : _ = (1 : Int32))]; rfl), N477, Kp413, trivial⟩
                            · refine own_icY X477 hx (hb hby own_d2_123) (feq hc123_478).2 (q := 130) (by decide) (by decide) ?_
                              refine own_iconst X477 hx (hb hby own_d2_130) (z := 0) rfl (q := 131) rfl ?_
                              refine own_retNH (s := s) (vm := T260.vm) X477 hx hS260 kZ414 e477 hh hZ (own_EW hw) CH390 (t := .boolean) (by simp) Bd.returns Bd.notSynchronized (by decide) (by decide) (hb hby own_d2_131) ?_
                              show own_Q2 Z p0 cs sb h0 n0 _ T477.heap _
                              rw [e477]
                              exact ⟨(by rw [show own_F2 p0 = _ from (by simp only [own_F2, if_neg hc1_38, if_pos hc8_40, if_neg hz415, if_neg hz421, if_neg hz427, if_neg hz433, if_neg hz439, if_neg hz445, if_neg hz451, if_neg hz457, if_neg hz463, if_neg hz469, if_pos hz475, if_neg hc123_478] : _ = (0 : Int32))]; rfl), N477, Kp413, trivial⟩
                          · by_cases hz481 : (p0 >>> ((3 : Int32) &&& 31)) = (11 : Int32)
                            · rw [hz481]
                              obtain ⟨cl482, Ar482, q482, S482, N482v, H482, G482⟩ := id V_b41_390
                              have hin482 : ¬ ((11 : Int32) < 0 ∨ cl482.slots.size ≤ ((11 : Int32)).toNatClampNeg) := inb_of S482 ⟨by decide, by decide⟩
                              refine own_back (X390.aaload hx (j := (11 : Int32)) (v := (.ref as260)) (by rw [e390]; exact Ar482.1) (State.isArrayOf_alike hZ.alike Ar482.2.1) rfl Ar482.2.2 hin482 (Has.at H482 hin482 rfl) (g := (mkF m 113 #[.val (.int p0), .val (.ref b41)] [(.int (11 : Int32)), (.ref b41)])) rfl rfl (hb hby own_d2_113)) ?_
                              show own_End p e below s _ _ _ (T390.setTop (mkF m 114 #[.val (.int p0), .val (.ref b41)] [(.ref as260)])) (own_EH Z)
                              refine own_iloadN X390 hx (hb hby own_d2_114) rfl (q := 115) rfl ?_
                              refine own_bipush X390 hx (hb hby own_d2_115) (z := 7) rfl (q := 117) rfl ?_
                              refine own_iand X390 hx (hb hby own_d2_117) (q := 118) rfl ?_
                              obtain ⟨cq483, kq483, q483a, q483b, q483c⟩ := isOf hZ e390 Ea260_409
                              obtain ⟨T483, Lc483, L483, X483, N483, hQ483, st483⟩ := own_shutV (val := some (.int (((((own_sel (p0 &&& (7 : Int32)) (49 : Int32) (49 : Int32) (49 : Int32) (48 : Int32) (48 : Int32) (48 : Int32) (48 : Int32) (48 : Int32)) &&& (255 : Int32)).toUInt32.toUInt16.toUInt32.toInt32).toUInt32.toUInt16.toUInt32.toInt32).toUInt32.toUInt16.toUInt32.toInt32))) (Q := own_Q3 Z as260 (p0 &&& (7 : Int32)) ab260 ak260 (49 : Int32) (49 : Int32) (49 : Int32) (48 : Int32) (48 : Int32) (48 : Int32) (48 : Int32) (48 : Int32) cs sb h390 n0) (rc := 0) (rs := 0) N390 (fun _ _ _ q => ⟨q.1, q.2.1⟩) (X390.virtualBack hx (y := (⟨"java/lang/String", "charAt", "(I)C"⟩ : MethodName)) (z := (⟨"java/lang/String", "charAt", "(I)C"⟩ : MethodName)) hown (mvT hZ (hw _ (List.mem_of_getElem? (i := 23) rfl))) (mvT hZ (hw _ (List.mem_of_getElem? (i := 24) rfl))) (notFace_of_selects (args := #[]) (mvT hZ (hw _ (List.mem_of_getElem? (i := 26) rfl)))) (mvT hZ (hw _ (List.mem_of_getElem? (i := 26) rfl))) (mvT hZ (hw _ (List.mem_of_getElem? (i := 25) rfl))) (by decide) (backOf (W := 0) (own_rm3 l Z a0 hw [] as260 (p0 &&& (7 : Int32)) ab260 ak260 (49 : Int32) (49 : Int32) (49 : Int32) (48 : Int32) (48 : Int32) (48 : Int32) (48 : Int32) (48 : Int32) cs sb h390 n0 Z414 Ea260_409 Fv260_411 Fc260_410 Vb260_412 S_c_391 S_f_392 (by assumption : ¬ (cs = (0 : Int32))) (by assumption : sb = .null ∨ ∃ x, sb = .ref x) (by assumption : ¬ ((p0 &&& (7 : Int32)) < (0 : Int32))) (by assumption : (p0 &&& (7 : Int32)) < (8 : Int32))) hZ (hw _ (List.mem_of_getElem? (i := 27) rfl)) (hw _ (List.mem_of_getElem? (i := 11) rfl)) (by decide) (by decide)) q483a q483c (g := (mkF m 118 #[.val (.int p0), .val (.ref b41)] [(.int (p0 &&& (7 : Int32))), (.ref as260)])) rfl (by rw [hml]; rfl) (Steps.refl _) (argsL := [(.int (p0 &&& (7 : Int32)))]) (rest := []) (lenOf own_pd4 rfl) rfl (by show 2 * 0 + _ ≤ _; exact Nat.le_of_eq rfl) (hb hby own_d2_118) (fun _ _ => ⟨rfl, e390, (by decide : 11 + 0 ≤ _), (by decide : 196 + 0 ≤ _)⟩))
                              obtain ⟨-, -, e483⟩ := hQ483
                              refine own_via st483 ?_
                              show own_End p e below s _ _ _ (T483.setTop (mkF m 121 #[.val (.int p0), .val (.ref b41)] [(.int (((((own_sel (p0 &&& (7 : Int32)) (49 : Int32) (49 : Int32) (49 : Int32) (48 : Int32) (48 : Int32) (48 : Int32) (48 : Int32) (48 : Int32)) &&& (255 : Int32)).toUInt32.toUInt16.toUInt32.toInt32).toUInt32.toUInt16.toUInt32.toInt32).toUInt32.toUInt16.toUInt32.toInt32))])) (own_EH Z)
                              refine own_bipush X483 hx (hb hby own_d2_121) (z := 49) rfl (q := 123) rfl ?_
                              by_cases hc123_484 : (((((own_sel (p0 &&& (7 : Int32)) (49 : Int32) (49 : Int32) (49 : Int32) (48 : Int32) (48 : Int32) (48 : Int32) (48 : Int32) (48 : Int32)) &&& (255 : Int32)).toUInt32.toUInt16.toUInt32.toInt32).toUInt32.toUInt16.toUInt32.toInt32).toUInt32.toUInt16.toUInt32.toInt32) = (49 : Int32)
                              · refine own_icN X483 hx (hb hby own_d2_123) (teq hc123_484).2 (q := 126) rfl ?_
                                refine own_iconst X483 hx (hb hby own_d2_126) (z := 1) rfl (q := 127) rfl ?_
                                refine own_goto X483 hx (hb hby own_d2_127) (q := 131) (by decide) (by decide) ?_
                                refine own_retNH (s := s) (vm := T260.vm) X483 hx hS260 kZ414 e483 hh hZ (own_EW hw) CH390 (t := .boolean) (by simp) Bd.returns Bd.notSynchronized (by decide) (by decide) (hb hby own_d2_131) ?_
                                show own_Q2 Z p0 cs sb h0 n0 _ T483.heap _
                                rw [e483]
                                exact ⟨(by rw [show own_F2 p0 = _ from (by simp only [own_F2, if_neg hc1_38, if_pos hc8_40, if_neg hz415, if_neg hz421, if_neg hz427, if_neg hz433, if_neg hz439, if_neg hz445, if_neg hz451, if_neg hz457, if_neg hz463, if_neg hz469, if_neg hz475, if_pos hz481, if_pos hc123_484] : _ = (1 : Int32))]; rfl), N483, Kp413, trivial⟩
                              · refine own_icY X483 hx (hb hby own_d2_123) (feq hc123_484).2 (q := 130) (by decide) (by decide) ?_
                                refine own_iconst X483 hx (hb hby own_d2_130) (z := 0) rfl (q := 131) rfl ?_
                                refine own_retNH (s := s) (vm := T260.vm) X483 hx hS260 kZ414 e483 hh hZ (own_EW hw) CH390 (t := .boolean) (by simp) Bd.returns Bd.notSynchronized (by decide) (by decide) (hb hby own_d2_131) ?_
                                show own_Q2 Z p0 cs sb h0 n0 _ T483.heap _
                                rw [e483]
                                exact ⟨(by rw [show own_F2 p0 = _ from (by simp only [own_F2, if_neg hc1_38, if_pos hc8_40, if_neg hz415, if_neg hz421, if_neg hz427, if_neg hz433, if_neg hz439, if_neg hz445, if_neg hz451, if_neg hz457, if_neg hz463, if_neg hz469, if_neg hz475, if_pos hz481, if_neg hc123_484] : _ = (0 : Int32))]; rfl), N483, Kp413, trivial⟩
                            · by_cases hz487 : (p0 >>> ((3 : Int32) &&& 31)) = (12 : Int32)
                              · rw [hz487]
                                obtain ⟨cl488, Ar488, q488, S488, N488v, H488, G488⟩ := id V_b41_390
                                have hin488 : ¬ ((12 : Int32) < 0 ∨ cl488.slots.size ≤ ((12 : Int32)).toNatClampNeg) := inb_of S488 ⟨by decide, by decide⟩
                                refine own_back (X390.aaload hx (j := (12 : Int32)) (v := (.ref as47)) (by rw [e390]; exact Ar488.1) (State.isArrayOf_alike hZ.alike Ar488.2.1) rfl Ar488.2.2 hin488 (Has.at H488 hin488 rfl) (g := (mkF m 113 #[.val (.int p0), .val (.ref b41)] [(.int (12 : Int32)), (.ref b41)])) rfl rfl (hb hby own_d2_113)) ?_
                                show own_End p e below s _ _ _ (T390.setTop (mkF m 114 #[.val (.int p0), .val (.ref b41)] [(.ref as47)])) (own_EH Z)
                                refine own_iloadN X390 hx (hb hby own_d2_114) rfl (q := 115) rfl ?_
                                refine own_bipush X390 hx (hb hby own_d2_115) (z := 7) rfl (q := 117) rfl ?_
                                refine own_iand X390 hx (hb hby own_d2_117) (q := 118) rfl ?_
                                obtain ⟨cq489, kq489, q489a, q489b, q489c⟩ := isOf hZ e390 Ea47_393
                                obtain ⟨T489, Lc489, L489, X489, N489, hQ489, st489⟩ := own_shutV (val := some (.int (((((own_sel (p0 &&& (7 : Int32)) (48 : Int32) (48 : Int32) (48 : Int32) (48 : Int32) (48 : Int32) (48 : Int32) (48 : Int32) (48 : Int32)) &&& (255 : Int32)).toUInt32.toUInt16.toUInt32.toInt32).toUInt32.toUInt16.toUInt32.toInt32).toUInt32.toUInt16.toUInt32.toInt32))) (Q := own_Q3 Z as47 (p0 &&& (7 : Int32)) ab47 ak47 (48 : Int32) (48 : Int32) (48 : Int32) (48 : Int32) (48 : Int32) (48 : Int32) (48 : Int32) (48 : Int32) cs sb h390 n0) (rc := 0) (rs := 0) N390 (fun _ _ _ q => ⟨q.1, q.2.1⟩) (X390.virtualBack hx (y := (⟨"java/lang/String", "charAt", "(I)C"⟩ : MethodName)) (z := (⟨"java/lang/String", "charAt", "(I)C"⟩ : MethodName)) hown (mvT hZ (hw _ (List.mem_of_getElem? (i := 23) rfl))) (mvT hZ (hw _ (List.mem_of_getElem? (i := 24) rfl))) (notFace_of_selects (args := #[]) (mvT hZ (hw _ (List.mem_of_getElem? (i := 26) rfl)))) (mvT hZ (hw _ (List.mem_of_getElem? (i := 26) rfl))) (mvT hZ (hw _ (List.mem_of_getElem? (i := 25) rfl))) (by decide) (backOf (W := 0) (own_rm3 l Z a0 hw [] as47 (p0 &&& (7 : Int32)) ab47 ak47 (48 : Int32) (48 : Int32) (48 : Int32) (48 : Int32) (48 : Int32) (48 : Int32) (48 : Int32) (48 : Int32) cs sb h390 n0 Z414 Ea47_393 Fv47_395 Fc47_394 Vb47_396 S_c_391 S_f_392 (by assumption : ¬ (cs = (0 : Int32))) (by assumption : sb = .null ∨ ∃ x, sb = .ref x) (by assumption : ¬ ((p0 &&& (7 : Int32)) < (0 : Int32))) (by assumption : (p0 &&& (7 : Int32)) < (8 : Int32))) hZ (hw _ (List.mem_of_getElem? (i := 27) rfl)) (hw _ (List.mem_of_getElem? (i := 11) rfl)) (by decide) (by decide)) q489a q489c (g := (mkF m 118 #[.val (.int p0), .val (.ref b41)] [(.int (p0 &&& (7 : Int32))), (.ref as47)])) rfl (by rw [hml]; rfl) (Steps.refl _) (argsL := [(.int (p0 &&& (7 : Int32)))]) (rest := []) (lenOf own_pd4 rfl) rfl (by show 2 * 0 + _ ≤ _; exact Nat.le_of_eq rfl) (hb hby own_d2_118) (fun _ _ => ⟨rfl, e390, (by decide : 11 + 0 ≤ _), (by decide : 196 + 0 ≤ _)⟩))
                                obtain ⟨-, -, e489⟩ := hQ489
                                refine own_via st489 ?_
                                show own_End p e below s _ _ _ (T489.setTop (mkF m 121 #[.val (.int p0), .val (.ref b41)] [(.int (((((own_sel (p0 &&& (7 : Int32)) (48 : Int32) (48 : Int32) (48 : Int32) (48 : Int32) (48 : Int32) (48 : Int32) (48 : Int32) (48 : Int32)) &&& (255 : Int32)).toUInt32.toUInt16.toUInt32.toInt32).toUInt32.toUInt16.toUInt32.toInt32).toUInt32.toUInt16.toUInt32.toInt32))])) (own_EH Z)
                                refine own_bipush X489 hx (hb hby own_d2_121) (z := 49) rfl (q := 123) rfl ?_
                                by_cases hc123_490 : (((((own_sel (p0 &&& (7 : Int32)) (48 : Int32) (48 : Int32) (48 : Int32) (48 : Int32) (48 : Int32) (48 : Int32) (48 : Int32) (48 : Int32)) &&& (255 : Int32)).toUInt32.toUInt16.toUInt32.toInt32).toUInt32.toUInt16.toUInt32.toInt32).toUInt32.toUInt16.toUInt32.toInt32) = (49 : Int32)
                                · refine own_icN X489 hx (hb hby own_d2_123) (teq hc123_490).2 (q := 126) rfl ?_
                                  refine own_iconst X489 hx (hb hby own_d2_126) (z := 1) rfl (q := 127) rfl ?_
                                  refine own_goto X489 hx (hb hby own_d2_127) (q := 131) (by decide) (by decide) ?_
                                  refine own_retNH (s := s) (vm := T260.vm) X489 hx hS260 kZ414 e489 hh hZ (own_EW hw) CH390 (t := .boolean) (by simp) Bd.returns Bd.notSynchronized (by decide) (by decide) (hb hby own_d2_131) ?_
                                  show own_Q2 Z p0 cs sb h0 n0 _ T489.heap _
                                  rw [e489]
                                  exact ⟨(by rw [show own_F2 p0 = _ from (by simp only [own_F2, if_neg hc1_38, if_pos hc8_40, if_neg hz415, if_neg hz421, if_neg hz427, if_neg hz433, if_neg hz439, if_neg hz445, if_neg hz451, if_neg hz457, if_neg hz463, if_neg hz469, if_neg hz475, if_neg hz481, if_pos hz487, if_pos hc123_490] : _ = (1 : Int32))]; rfl), N489, Kp413, trivial⟩
                                · refine own_icY X489 hx (hb hby own_d2_123) (feq hc123_490).2 (q := 130) (by decide) (by decide) ?_
                                  refine own_iconst X489 hx (hb hby own_d2_130) (z := 0) rfl (q := 131) rfl ?_
                                  refine own_retNH (s := s) (vm := T260.vm) X489 hx hS260 kZ414 e489 hh hZ (own_EW hw) CH390 (t := .boolean) (by simp) Bd.returns Bd.notSynchronized (by decide) (by decide) (hb hby own_d2_131) ?_
                                  show own_Q2 Z p0 cs sb h0 n0 _ T489.heap _
                                  rw [e489]
                                  exact ⟨(by rw [show own_F2 p0 = _ from (by simp only [own_F2, if_neg hc1_38, if_pos hc8_40, if_neg hz415, if_neg hz421, if_neg hz427, if_neg hz433, if_neg hz439, if_neg hz445, if_neg hz451, if_neg hz457, if_neg hz463, if_neg hz469, if_neg hz475, if_neg hz481, if_pos hz487, if_neg hc123_490] : _ = (0 : Int32))]; rfl), N489, Kp413, trivial⟩
                              · by_cases hz493 : (p0 >>> ((3 : Int32) &&& 31)) = (13 : Int32)
                                · rw [hz493]
                                  obtain ⟨cl494, Ar494, q494, S494, N494v, H494, G494⟩ := id V_b41_390
                                  have hin494 : ¬ ((13 : Int32) < 0 ∨ cl494.slots.size ≤ ((13 : Int32)).toNatClampNeg) := inb_of S494 ⟨by decide, by decide⟩
                                  refine own_back (X390.aaload hx (j := (13 : Int32)) (v := (.ref as47)) (by rw [e390]; exact Ar494.1) (State.isArrayOf_alike hZ.alike Ar494.2.1) rfl Ar494.2.2 hin494 (Has.at H494 hin494 rfl) (g := (mkF m 113 #[.val (.int p0), .val (.ref b41)] [(.int (13 : Int32)), (.ref b41)])) rfl rfl (hb hby own_d2_113)) ?_
                                  show own_End p e below s _ _ _ (T390.setTop (mkF m 114 #[.val (.int p0), .val (.ref b41)] [(.ref as47)])) (own_EH Z)
                                  refine own_iloadN X390 hx (hb hby own_d2_114) rfl (q := 115) rfl ?_
                                  refine own_bipush X390 hx (hb hby own_d2_115) (z := 7) rfl (q := 117) rfl ?_
                                  refine own_iand X390 hx (hb hby own_d2_117) (q := 118) rfl ?_
                                  obtain ⟨cq495, kq495, q495a, q495b, q495c⟩ := isOf hZ e390 Ea47_393
                                  obtain ⟨T495, Lc495, L495, X495, N495, hQ495, st495⟩ := own_shutV (val := some (.int (((((own_sel (p0 &&& (7 : Int32)) (48 : Int32) (48 : Int32) (48 : Int32) (48 : Int32) (48 : Int32) (48 : Int32) (48 : Int32) (48 : Int32)) &&& (255 : Int32)).toUInt32.toUInt16.toUInt32.toInt32).toUInt32.toUInt16.toUInt32.toInt32).toUInt32.toUInt16.toUInt32.toInt32))) (Q := own_Q3 Z as47 (p0 &&& (7 : Int32)) ab47 ak47 (48 : Int32) (48 : Int32) (48 : Int32) (48 : Int32) (48 : Int32) (48 : Int32) (48 : Int32) (48 : Int32) cs sb h390 n0) (rc := 0) (rs := 0) N390 (fun _ _ _ q => ⟨q.1, q.2.1⟩) (X390.virtualBack hx (y := (⟨"java/lang/String", "charAt", "(I)C"⟩ : MethodName)) (z := (⟨"java/lang/String", "charAt", "(I)C"⟩ : MethodName)) hown (mvT hZ (hw _ (List.mem_of_getElem? (i := 23) rfl))) (mvT hZ (hw _ (List.mem_of_getElem? (i := 24) rfl))) (notFace_of_selects (args := #[]) (mvT hZ (hw _ (List.mem_of_getElem? (i := 26) rfl)))) (mvT hZ (hw _ (List.mem_of_getElem? (i := 26) rfl))) (mvT hZ (hw _ (List.mem_of_getElem? (i := 25) rfl))) (by decide) (backOf (W := 0) (own_rm3 l Z a0 hw [] as47 (p0 &&& (7 : Int32)) ab47 ak47 (48 : Int32) (48 : Int32) (48 : Int32) (48 : Int32) (48 : Int32) (48 : Int32) (48 : Int32) (48 : Int32) cs sb h390 n0 Z414 Ea47_393 Fv47_395 Fc47_394 Vb47_396 S_c_391 S_f_392 (by assumption : ¬ (cs = (0 : Int32))) (by assumption : sb = .null ∨ ∃ x, sb = .ref x) (by assumption : ¬ ((p0 &&& (7 : Int32)) < (0 : Int32))) (by assumption : (p0 &&& (7 : Int32)) < (8 : Int32))) hZ (hw _ (List.mem_of_getElem? (i := 27) rfl)) (hw _ (List.mem_of_getElem? (i := 11) rfl)) (by decide) (by decide)) q495a q495c (g := (mkF m 118 #[.val (.int p0), .val (.ref b41)] [(.int (p0 &&& (7 : Int32))), (.ref as47)])) rfl (by rw [hml]; rfl) (Steps.refl _) (argsL := [(.int (p0 &&& (7 : Int32)))]) (rest := []) (lenOf own_pd4 rfl) rfl (by show 2 * 0 + _ ≤ _; exact Nat.le_of_eq rfl) (hb hby own_d2_118) (fun _ _ => ⟨rfl, e390, (by decide : 11 + 0 ≤ _), (by decide : 196 + 0 ≤ _)⟩))
                                  obtain ⟨-, -, e495⟩ := hQ495
                                  refine own_via st495 ?_
                                  show own_End p e below s _ _ _ (T495.setTop (mkF m 121 #[.val (.int p0), .val (.ref b41)] [(.int (((((own_sel (p0 &&& (7 : Int32)) (48 : Int32) (48 : Int32) (48 : Int32) (48 : Int32) (48 : Int32) (48 : Int32) (48 : Int32) (48 : Int32)) &&& (255 : Int32)).toUInt32.toUInt16.toUInt32.toInt32).toUInt32.toUInt16.toUInt32.toInt32).toUInt32.toUInt16.toUInt32.toInt32))])) (own_EH Z)
                                  refine own_bipush X495 hx (hb hby own_d2_121) (z := 49) rfl (q := 123) rfl ?_
                                  by_cases hc123_496 : (((((own_sel (p0 &&& (7 : Int32)) (48 : Int32) (48 : Int32) (48 : Int32) (48 : Int32) (48 : Int32) (48 : Int32) (48 : Int32) (48 : Int32)) &&& (255 : Int32)).toUInt32.toUInt16.toUInt32.toInt32).toUInt32.toUInt16.toUInt32.toInt32).toUInt32.toUInt16.toUInt32.toInt32) = (49 : Int32)
                                  · refine own_icN X495 hx (hb hby own_d2_123) (teq hc123_496).2 (q := 126) rfl ?_
                                    refine own_iconst X495 hx (hb hby own_d2_126) (z := 1) rfl (q := 127) rfl ?_
                                    refine own_goto X495 hx (hb hby own_d2_127) (q := 131) (by decide) (by decide) ?_
                                    refine own_retNH (s := s) (vm := T260.vm) X495 hx hS260 kZ414 e495 hh hZ (own_EW hw) CH390 (t := .boolean) (by simp) Bd.returns Bd.notSynchronized (by decide) (by decide) (hb hby own_d2_131) ?_
                                    show own_Q2 Z p0 cs sb h0 n0 _ T495.heap _
                                    rw [e495]
                                    exact ⟨(by rw [show own_F2 p0 = _ from (by simp only [own_F2, if_neg hc1_38, if_pos hc8_40, if_neg hz415, if_neg hz421, if_neg hz427, if_neg hz433, if_neg hz439, if_neg hz445, if_neg hz451, if_neg hz457, if_neg hz463, if_neg hz469, if_neg hz475, if_neg hz481, if_neg hz487, if_pos hz493, if_pos hc123_496] : _ = (1 : Int32))]; rfl), N495, Kp413, trivial⟩
                                  · refine own_icY X495 hx (hb hby own_d2_123) (feq hc123_496).2 (q := 130) (by decide) (by decide) ?_
                                    refine own_iconst X495 hx (hb hby own_d2_130) (z := 0) rfl (q := 131) rfl ?_
                                    refine own_retNH (s := s) (vm := T260.vm) X495 hx hS260 kZ414 e495 hh hZ (own_EW hw) CH390 (t := .boolean) (by simp) Bd.returns Bd.notSynchronized (by decide) (by decide) (hb hby own_d2_131) ?_
                                    show own_Q2 Z p0 cs sb h0 n0 _ T495.heap _
                                    rw [e495]
                                    exact ⟨(by rw [show own_F2 p0 = _ from (by simp only [own_F2, if_neg hc1_38, if_pos hc8_40, if_neg hz415, if_neg hz421, if_neg hz427, if_neg hz433, if_neg hz439, if_neg hz445, if_neg hz451, if_neg hz457, if_neg hz463, if_neg hz469, if_neg hz475, if_neg hz481, if_neg hz487, if_pos hz493, if_neg hc123_496] : _ = (0 : Int32))]; rfl), N495, Kp413, trivial⟩
                                · by_cases hz499 : (p0 >>> ((3 : Int32) &&& 31)) = (14 : Int32)
                                  · rw [hz499]
                                    obtain ⟨cl500, Ar500, q500, S500, N500v, H500, G500⟩ := id V_b41_390
                                    have hin500 : ¬ ((14 : Int32) < 0 ∨ cl500.slots.size ≤ ((14 : Int32)).toNatClampNeg) := inb_of S500 ⟨by decide, by decide⟩
                                    refine own_back (X390.aaload hx (j := (14 : Int32)) (v := (.ref as47)) (by rw [e390]; exact Ar500.1) (State.isArrayOf_alike hZ.alike Ar500.2.1) rfl Ar500.2.2 hin500 (Has.at H500 hin500 rfl) (g := (mkF m 113 #[.val (.int p0), .val (.ref b41)] [(.int (14 : Int32)), (.ref b41)])) rfl rfl (hb hby own_d2_113)) ?_
                                    show own_End p e below s _ _ _ (T390.setTop (mkF m 114 #[.val (.int p0), .val (.ref b41)] [(.ref as47)])) (own_EH Z)
                                    refine own_iloadN X390 hx (hb hby own_d2_114) rfl (q := 115) rfl ?_
                                    refine own_bipush X390 hx (hb hby own_d2_115) (z := 7) rfl (q := 117) rfl ?_
                                    refine own_iand X390 hx (hb hby own_d2_117) (q := 118) rfl ?_
                                    obtain ⟨cq501, kq501, q501a, q501b, q501c⟩ := isOf hZ e390 Ea47_393
                                    obtain ⟨T501, Lc501, L501, X501, N501, hQ501, st501⟩ := own_shutV (val := some (.int (((((own_sel (p0 &&& (7 : Int32)) (48 : Int32) (48 : Int32) (48 : Int32) (48 : Int32) (48 : Int32) (48 : Int32) (48 : Int32) (48 : Int32)) &&& (255 : Int32)).toUInt32.toUInt16.toUInt32.toInt32).toUInt32.toUInt16.toUInt32.toInt32).toUInt32.toUInt16.toUInt32.toInt32))) (Q := own_Q3 Z as47 (p0 &&& (7 : Int32)) ab47 ak47 (48 : Int32) (48 : Int32) (48 : Int32) (48 : Int32) (48 : Int32) (48 : Int32) (48 : Int32) (48 : Int32) cs sb h390 n0) (rc := 0) (rs := 0) N390 (fun _ _ _ q => ⟨q.1, q.2.1⟩) (X390.virtualBack hx (y := (⟨"java/lang/String", "charAt", "(I)C"⟩ : MethodName)) (z := (⟨"java/lang/String", "charAt", "(I)C"⟩ : MethodName)) hown (mvT hZ (hw _ (List.mem_of_getElem? (i := 23) rfl))) (mvT hZ (hw _ (List.mem_of_getElem? (i := 24) rfl))) (notFace_of_selects (args := #[]) (mvT hZ (hw _ (List.mem_of_getElem? (i := 26) rfl)))) (mvT hZ (hw _ (List.mem_of_getElem? (i := 26) rfl))) (mvT hZ (hw _ (List.mem_of_getElem? (i := 25) rfl))) (by decide) (backOf (W := 0) (own_rm3 l Z a0 hw [] as47 (p0 &&& (7 : Int32)) ab47 ak47 (48 : Int32) (48 : Int32) (48 : Int32) (48 : Int32) (48 : Int32) (48 : Int32) (48 : Int32) (48 : Int32) cs sb h390 n0 Z414 Ea47_393 Fv47_395 Fc47_394 Vb47_396 S_c_391 S_f_392 (by assumption : ¬ (cs = (0 : Int32))) (by assumption : sb = .null ∨ ∃ x, sb = .ref x) (by assumption : ¬ ((p0 &&& (7 : Int32)) < (0 : Int32))) (by assumption : (p0 &&& (7 : Int32)) < (8 : Int32))) hZ (hw _ (List.mem_of_getElem? (i := 27) rfl)) (hw _ (List.mem_of_getElem? (i := 11) rfl)) (by decide) (by decide)) q501a q501c (g := (mkF m 118 #[.val (.int p0), .val (.ref b41)] [(.int (p0 &&& (7 : Int32))), (.ref as47)])) rfl (by rw [hml]; rfl) (Steps.refl _) (argsL := [(.int (p0 &&& (7 : Int32)))]) (rest := []) (lenOf own_pd4 rfl) rfl (by show 2 * 0 + _ ≤ _; exact Nat.le_of_eq rfl) (hb hby own_d2_118) (fun _ _ => ⟨rfl, e390, (by decide : 11 + 0 ≤ _), (by decide : 196 + 0 ≤ _)⟩))
                                    obtain ⟨-, -, e501⟩ := hQ501
                                    refine own_via st501 ?_
                                    show own_End p e below s _ _ _ (T501.setTop (mkF m 121 #[.val (.int p0), .val (.ref b41)] [(.int (((((own_sel (p0 &&& (7 : Int32)) (48 : Int32) (48 : Int32) (48 : Int32) (48 : Int32) (48 : Int32) (48 : Int32) (48 : Int32) (48 : Int32)) &&& (255 : Int32)).toUInt32.toUInt16.toUInt32.toInt32).toUInt32.toUInt16.toUInt32.toInt32).toUInt32.toUInt16.toUInt32.toInt32))])) (own_EH Z)
                                    refine own_bipush X501 hx (hb hby own_d2_121) (z := 49) rfl (q := 123) rfl ?_
                                    by_cases hc123_502 : (((((own_sel (p0 &&& (7 : Int32)) (48 : Int32) (48 : Int32) (48 : Int32) (48 : Int32) (48 : Int32) (48 : Int32) (48 : Int32) (48 : Int32)) &&& (255 : Int32)).toUInt32.toUInt16.toUInt32.toInt32).toUInt32.toUInt16.toUInt32.toInt32).toUInt32.toUInt16.toUInt32.toInt32) = (49 : Int32)
                                    · refine own_icN X501 hx (hb hby own_d2_123) (teq hc123_502).2 (q := 126) rfl ?_
                                      refine own_iconst X501 hx (hb hby own_d2_126) (z := 1) rfl (q := 127) rfl ?_
                                      refine own_goto X501 hx (hb hby own_d2_127) (q := 131) (by decide) (by decide) ?_
                                      refine own_retNH (s := s) (vm := T260.vm) X501 hx hS260 kZ414 e501 hh hZ (own_EW hw) CH390 (t := .boolean) (by simp) Bd.returns Bd.notSynchronized (by decide) (by decide) (hb hby own_d2_131) ?_
                                      show own_Q2 Z p0 cs sb h0 n0 _ T501.heap _
                                      rw [e501]
                                      exact ⟨(by rw [show own_F2 p0 = _ from (by simp only [own_F2, if_neg hc1_38, if_pos hc8_40, if_neg hz415, if_neg hz421, if_neg hz427, if_neg hz433, if_neg hz439, if_neg hz445, if_neg hz451, if_neg hz457, if_neg hz463, if_neg hz469, if_neg hz475, if_neg hz481, if_neg hz487, if_neg hz493, if_pos hz499, if_pos hc123_502] : _ = (1 : Int32))]; rfl), N501, Kp413, trivial⟩
                                    · refine own_icY X501 hx (hb hby own_d2_123) (feq hc123_502).2 (q := 130) (by decide) (by decide) ?_
                                      refine own_iconst X501 hx (hb hby own_d2_130) (z := 0) rfl (q := 131) rfl ?_
                                      refine own_retNH (s := s) (vm := T260.vm) X501 hx hS260 kZ414 e501 hh hZ (own_EW hw) CH390 (t := .boolean) (by simp) Bd.returns Bd.notSynchronized (by decide) (by decide) (hb hby own_d2_131) ?_
                                      show own_Q2 Z p0 cs sb h0 n0 _ T501.heap _
                                      rw [e501]
                                      exact ⟨(by rw [show own_F2 p0 = _ from (by simp only [own_F2, if_neg hc1_38, if_pos hc8_40, if_neg hz415, if_neg hz421, if_neg hz427, if_neg hz433, if_neg hz439, if_neg hz445, if_neg hz451, if_neg hz457, if_neg hz463, if_neg hz469, if_neg hz475, if_neg hz481, if_neg hz487, if_neg hz493, if_pos hz499, if_neg hc123_502] : _ = (0 : Int32))]; rfl), N501, Kp413, trivial⟩
                                  · have hz505 : (p0 >>> ((3 : Int32) &&& 31)) = (15 : Int32) := own_row p0 hc1_38 hc8_40 hz415 hz421 hz427 hz433 hz439 hz445 hz451 hz457 hz463 hz469 hz475 hz481 hz487 hz493 hz499
                                    rw [hz505]
                                    obtain ⟨cl506, Ar506, q506, S506, N506v, H506, G506⟩ := id V_b41_390
                                    have hin506 : ¬ ((15 : Int32) < 0 ∨ cl506.slots.size ≤ ((15 : Int32)).toNatClampNeg) := inb_of S506 ⟨by decide, by decide⟩
                                    refine own_back (X390.aaload hx (j := (15 : Int32)) (v := (.ref as47)) (by rw [e390]; exact Ar506.1) (State.isArrayOf_alike hZ.alike Ar506.2.1) rfl Ar506.2.2 hin506 (Has.at H506 hin506 rfl) (g := (mkF m 113 #[.val (.int p0), .val (.ref b41)] [(.int (15 : Int32)), (.ref b41)])) rfl rfl (hb hby own_d2_113)) ?_
                                    show own_End p e below s _ _ _ (T390.setTop (mkF m 114 #[.val (.int p0), .val (.ref b41)] [(.ref as47)])) (own_EH Z)
                                    refine own_iloadN X390 hx (hb hby own_d2_114) rfl (q := 115) rfl ?_
                                    refine own_bipush X390 hx (hb hby own_d2_115) (z := 7) rfl (q := 117) rfl ?_
                                    refine own_iand X390 hx (hb hby own_d2_117) (q := 118) rfl ?_
                                    obtain ⟨cq507, kq507, q507a, q507b, q507c⟩ := isOf hZ e390 Ea47_393
                                    obtain ⟨T507, Lc507, L507, X507, N507, hQ507, st507⟩ := own_shutV (val := some (.int (((((own_sel (p0 &&& (7 : Int32)) (48 : Int32) (48 : Int32) (48 : Int32) (48 : Int32) (48 : Int32) (48 : Int32) (48 : Int32) (48 : Int32)) &&& (255 : Int32)).toUInt32.toUInt16.toUInt32.toInt32).toUInt32.toUInt16.toUInt32.toInt32).toUInt32.toUInt16.toUInt32.toInt32))) (Q := own_Q3 Z as47 (p0 &&& (7 : Int32)) ab47 ak47 (48 : Int32) (48 : Int32) (48 : Int32) (48 : Int32) (48 : Int32) (48 : Int32) (48 : Int32) (48 : Int32) cs sb h390 n0) (rc := 0) (rs := 0) N390 (fun _ _ _ q => ⟨q.1, q.2.1⟩) (X390.virtualBack hx (y := (⟨"java/lang/String", "charAt", "(I)C"⟩ : MethodName)) (z := (⟨"java/lang/String", "charAt", "(I)C"⟩ : MethodName)) hown (mvT hZ (hw _ (List.mem_of_getElem? (i := 23) rfl))) (mvT hZ (hw _ (List.mem_of_getElem? (i := 24) rfl))) (notFace_of_selects (args := #[]) (mvT hZ (hw _ (List.mem_of_getElem? (i := 26) rfl)))) (mvT hZ (hw _ (List.mem_of_getElem? (i := 26) rfl))) (mvT hZ (hw _ (List.mem_of_getElem? (i := 25) rfl))) (by decide) (backOf (W := 0) (own_rm3 l Z a0 hw [] as47 (p0 &&& (7 : Int32)) ab47 ak47 (48 : Int32) (48 : Int32) (48 : Int32) (48 : Int32) (48 : Int32) (48 : Int32) (48 : Int32) (48 : Int32) cs sb h390 n0 Z414 Ea47_393 Fv47_395 Fc47_394 Vb47_396 S_c_391 S_f_392 (by assumption : ¬ (cs = (0 : Int32))) (by assumption : sb = .null ∨ ∃ x, sb = .ref x) (by assumption : ¬ ((p0 &&& (7 : Int32)) < (0 : Int32))) (by assumption : (p0 &&& (7 : Int32)) < (8 : Int32))) hZ (hw _ (List.mem_of_getElem? (i := 27) rfl)) (hw _ (List.mem_of_getElem? (i := 11) rfl)) (by decide) (by decide)) q507a q507c (g := (mkF m 118 #[.val (.int p0), .val (.ref b41)] [(.int (p0 &&& (7 : Int32))), (.ref as47)])) rfl (by rw [hml]; rfl) (Steps.refl _) (argsL := [(.int (p0 &&& (7 : Int32)))]) (rest := []) (lenOf own_pd4 rfl) rfl (by show 2 * 0 + _ ≤ _; exact Nat.le_of_eq rfl) (hb hby own_d2_118) (fun _ _ => ⟨rfl, e390, (by decide : 11 + 0 ≤ _), (by decide : 196 + 0 ≤ _)⟩))
                                    obtain ⟨-, -, e507⟩ := hQ507
                                    refine own_via st507 ?_
                                    show own_End p e below s _ _ _ (T507.setTop (mkF m 121 #[.val (.int p0), .val (.ref b41)] [(.int (((((own_sel (p0 &&& (7 : Int32)) (48 : Int32) (48 : Int32) (48 : Int32) (48 : Int32) (48 : Int32) (48 : Int32) (48 : Int32) (48 : Int32)) &&& (255 : Int32)).toUInt32.toUInt16.toUInt32.toInt32).toUInt32.toUInt16.toUInt32.toInt32).toUInt32.toUInt16.toUInt32.toInt32))])) (own_EH Z)
                                    refine own_bipush X507 hx (hb hby own_d2_121) (z := 49) rfl (q := 123) rfl ?_
                                    by_cases hc123_508 : (((((own_sel (p0 &&& (7 : Int32)) (48 : Int32) (48 : Int32) (48 : Int32) (48 : Int32) (48 : Int32) (48 : Int32) (48 : Int32) (48 : Int32)) &&& (255 : Int32)).toUInt32.toUInt16.toUInt32.toInt32).toUInt32.toUInt16.toUInt32.toInt32).toUInt32.toUInt16.toUInt32.toInt32) = (49 : Int32)
                                    · refine own_icN X507 hx (hb hby own_d2_123) (teq hc123_508).2 (q := 126) rfl ?_
                                      refine own_iconst X507 hx (hb hby own_d2_126) (z := 1) rfl (q := 127) rfl ?_
                                      refine own_goto X507 hx (hb hby own_d2_127) (q := 131) (by decide) (by decide) ?_
                                      refine own_retNH (s := s) (vm := T260.vm) X507 hx hS260 kZ414 e507 hh hZ (own_EW hw) CH390 (t := .boolean) (by simp) Bd.returns Bd.notSynchronized (by decide) (by decide) (hb hby own_d2_131) ?_
                                      show own_Q2 Z p0 cs sb h0 n0 _ T507.heap _
                                      rw [e507]
                                      exact ⟨(by rw [show own_F2 p0 = _ from (by simp only [own_F2, if_neg hc1_38, if_pos hc8_40, if_neg hz415, if_neg hz421, if_neg hz427, if_neg hz433, if_neg hz439, if_neg hz445, if_neg hz451, if_neg hz457, if_neg hz463, if_neg hz469, if_neg hz475, if_neg hz481, if_neg hz487, if_neg hz493, if_neg hz499, if_pos hc123_508] : _ = (1 : Int32))]; rfl), N507, Kp413, trivial⟩
                                    · refine own_icY X507 hx (hb hby own_d2_123) (feq hc123_508).2 (q := 130) (by decide) (by decide) ?_
                                      refine own_iconst X507 hx (hb hby own_d2_130) (z := 0) rfl (q := 131) rfl ?_
                                      refine own_retNH (s := s) (vm := T260.vm) X507 hx hS260 kZ414 e507 hh hZ (own_EW hw) CH390 (t := .boolean) (by simp) Bd.returns Bd.notSynchronized (by decide) (by decide) (hb hby own_d2_131) ?_
                                      show own_Q2 Z p0 cs sb h0 n0 _ T507.heap _
                                      rw [e507]
                                      exact ⟨(by rw [show own_F2 p0 = _ from (by simp only [own_F2, if_neg hc1_38, if_pos hc8_40, if_neg hz415, if_neg hz421, if_neg hz427, if_neg hz433, if_neg hz439, if_neg hz445, if_neg hz451, if_neg hz457, if_neg hz463, if_neg hz469, if_neg hz475, if_neg hz481, if_neg hz487, if_neg hz493, if_neg hz499, if_neg hc123_508] : _ = (0 : Int32))]; rfl), N507, Kp413, trivial⟩
    · refine own_icN X0 hx (hb hby own_d2_8) (flt hc8_40).1 (q := 11) rfl ?_
      refine own_iconst X0 hx (hb hby own_d2_11) (z := 0) rfl (q := 12) rfl ?_
      refine own_retNH (s := s) (vm := s.vm) X0 hx own_since0 (Nat.zero_le _) e0 hh hZ (own_EW hw) CH0 (t := .boolean) (by simp) Bd.returns Bd.notSynchronized (by decide) (by decide) (hb hby own_d2_12) ?_
      show own_Q2 Z p0 cs sb h0 n0 _ s₁.heap _
      rw [e0]
      exact ⟨(by rw [show own_F2 p0 = _ from (by simp only [own_F2, if_neg hc1_38, if_neg hc8_40] : _ = (0 : Int32))]; rfl), N0, (Keep.refl h0 []), trivial⟩
theorem own_law (x : Int32) : own_F1 x = own_F2 x := by
  by_cases h1 : x < 0
  · have e0 : (0 : Int32).toInt = 0 := by decide
    have a : x < 65 := by rw [Int32.lt_iff_toInt_lt] at *; have : (65 : Int32).toInt = 65 := by decide
                          omega
    have b : x < 48 := by rw [Int32.lt_iff_toInt_lt] at *; have : (48 : Int32).toInt = 48 := by decide
                          omega
    rw [own_F1, own_F2, if_pos h1, if_pos a, if_pos b]
  · by_cases h2 : x < 128
    · obtain ⟨n, rfl⟩ := own_fin x h1 h2
      have q : ∀ n : Fin 128, own_F1 (Int32.ofNat n.val) = own_F2 (Int32.ofNat n.val) := by decide +kernel
      exact q n
    · have a : ¬ x < 65 ∧ ¬ x < 48 ∧ 90 < x ∧ 57 < x := by
        rw [Int32.lt_iff_toInt_lt] at h2
        have e1 : (128 : Int32).toInt = 128 := by decide
        have e2 : (65 : Int32).toInt = 65 := by decide
        have e3 : (48 : Int32).toInt = 48 := by decide
        have e4 : (90 : Int32).toInt = 90 := by decide
        have e5 : (57 : Int32).toInt = 57 := by decide
        simp only [Int32.lt_iff_toInt_lt]
        omega
      rw [own_F1, own_F2, if_neg h1, if_neg h2]
      simp only [if_pos a.2.2.1, if_neg a.1, if_neg a.2.1, if_pos a.2.2.2]
theorem own_pd5 : parseMethodDescriptor "(I)Z" = some ⟨[.int], some .boolean⟩ := by decide +kernel
def own_Q0 (Z : State) (p0 : Int32) (p1 : Int32) (cs : Int32) (sb : Value) (h0 : Heap) (n0 : Nat) (v : Option Value) (h : Heap) (L : List Loc) : Prop := v = some (.int (1 : Int32)) ∧ Fr n0 L
theorem own_pn_rm0 : plainName "com/example/renkei/renkei/codec/SegmentEndsIsIdUnitPinLaw" = true := by first | (simp [plainName, overriddenIn]; done) | decide +kernel
theorem own_ef_rm0 (m : MethodId) (p0 : Int32) (p1 : Int32) : entryFrame m #[(.int p0), (.int p1)] maxLocals = mkF m 0 #[.val (.int p0), .val (.int p1), .unset] [] := by first | (simp [entryFrame, mkF, argsToLocals, Value.category, maxLocals]; done) | rfl
set_option maxRecDepth 65536 in
set_option maxHeartbeats 40000000 in
theorem own_rm0 (l : Launch) (Z : State) (a0 : Array Value) (hw : ∀ d ∈ tables_1, d.before a0 Z = true) (ws : List Jvm.Cond) (p0 : Int32) (p1 : Int32) (cs : Int32) (sb : Value) (h0 : Heap) (n0 : Nat) (Z0 : n0 ≤ h0.size) (S_c : Sta Z h0 "java/lang/String" "COMPACT_STRINGS" "Z" (.int cs)) (S_f : Sta Z h0 "jdk/internal/util/Preconditions" "SIOOBE_FORMATTER" "Ljava/util/function/BiFunction;" sb) (hcs : ¬ (cs = (0 : Int32))) (hsb : sb = .null ∨ ∃ x, sb = .ref x) :
    MetFree l x (head1 (Jvm.Cond.code x code maxLocals ret :: ws) room_1) (fun a U => a = #[(.int p0), (.int p1)] ∧ Z.Warmed39 U.vm ∧ U.heap = h0 ∧ CHv Z consts_1 U.vm h0) (fun _ _ _ _ _ => True) (fun _ U o U' => ∃ v L, o = .returned v ∧ own_Q0 Z p0 p1 cs sb h0 n0 v U'.heap L ∧ ReturnedEndW U o U' L room_1.cells room_1.slots) := by
  refine MetFree.of_bodySF (plainFor_of_name own_pn_rm0) hisR ?_
  intro p e s m args below meth c s₁ Bd hml0 hP hK
  obtain ⟨rfl, hZ, hh, hCH⟩ := hP
  have CH0 := CHr.refl hCH
  have hx := Bd.exec
  have hby := Bd.bytes
  have hml : c.maxLocals = 3 := hml0
  have hown : s.vm.findClass "com/example/renkei/renkei/codec/SegmentEndsIsIdUnitPinLaw" = some m.cls := findClass_of_methodNamed Bd.named
  have hnm := (name_of_methodNamed Bd.named Bd.method).1
  have X0 : Stand p l e room_1 s m #[(.int p0), (.int p1)] below meth c s₁ [] 0 0 := Stand.of_body Bd
  have e0 : s₁.heap = h0 := by rw [← hh, Bd.state]; rfl
  have N0 := Fr.nil n0
  show own_End p e below s (own_Q0 Z p0 p1 cs sb h0 n0) room_1.cells room_1.slots (s₁.setTop (entryFrame m #[(.int p0), (.int p1)] maxLocals)) ReturnedEndW
  rw [own_ef_rm0]
  refine own_iloadN X0 hx (hb hby at_0) rfl (q := 1) rfl ?_
  refine own_bipush X0 hx (hb hby at_1) (z := 127) rfl (q := 3) rfl ?_
  refine own_iand X0 hx (hb hby at_3) (q := 4) rfl ?_
  refine own_istoreN X0 hx (hb hby at_4) (l' := #[.val (.int p0), .val (.int p1), .val (.int (p1 &&& (127 : Int32)))]) rfl (q := 5) rfl ?_
  refine own_iloadN X0 hx (hb hby at_5) rfl (q := 6) rfl ?_
  obtain ⟨T512, Lc512, L512, X512, N512, hQ512, st512⟩ := own_shutS (val := some (.int (own_F1 p0))) (Q := own_Q1 Z p0 h0 n0) (rc := 0) (rs := 0) N0 (fun _ _ _ q => ⟨q.1, q.2.1⟩) (Jvm.LawKit.callS X0 hx (y := (⟨"com/example/renkei/renkei/codec/SegmentEnds", "isIdUnit", "(I)Z"⟩ : MethodName)) hown (mvT hZ (hw _ (List.mem_of_getElem? (i := 0) rfl))) (mvT hZ (hw _ (List.mem_of_getElem? (i := 1) rfl))) (mvT hZ (hw _ (List.mem_of_getElem? (i := 2) rfl))) (mvT hZ (hw _ (List.mem_of_getElem? (i := 3) rfl))) (by decide) (backOf (W := 0) (own_rm1 l Z a0 hw [] p0 h0 n0 Z0 ) hZ (hw _ (List.mem_of_getElem? (i := 3) rfl)) (hw _ (List.mem_of_getElem? (i := 2) rfl)) (by decide) (by decide)) (g := (mkF m 6 #[.val (.int p0), .val (.int p1), .val (.int (p1 &&& (127 : Int32)))] [(.int p0)])) rfl (by rw [hml]; rfl) (argsL := [(.int p0)]) (rest := []) (lenOf own_pd5 rfl) rfl (by show 2 * 0 + _ ≤ _; exact Nat.le_of_eq rfl) (hb hby at_6) (fun _ _ => ⟨rfl, e0, (by decide : 0 + 0 ≤ _), (by decide : 0 + 0 ≤ _)⟩))
  obtain ⟨-, -, e512⟩ := hQ512
  refine own_back st512 ?_
  show own_End p e below s _ _ _ (T512.setTop (mkF m 9 #[.val (.int p0), .val (.int p1), .val (.int (p1 &&& (127 : Int32)))] [(.int (own_F1 p0))])) ReturnedEndW
  refine own_iloadN X512 hx (hb hby at_9) rfl (q := 10) rfl ?_
  obtain ⟨T513, Lc513, L513, X513, N513, hQ513, hT513, hg513, hC513, st513⟩ := own_shutH (s := s) (vm0 := s.vm) (val := some (.int (own_F2 p0))) (Q := own_Q2 Z p0 cs sb h0 n0) (rc := 11) (rs := 196) N512 (fun _ _ _ q => ⟨q.1, q.2.1⟩) (callSS (s := s.setVm s.vm) X512 hx (y := (⟨"com/example/renkei/renkei/codec/SegmentEndsIsIdUnitPinLaw", "ref", "(I)Z"⟩ : MethodName)) hown (mvT (s := s.setVm s.vm) hZ (hw _ (List.mem_of_getElem? (i := 4) rfl))) (mvT (s := s.setVm s.vm) hZ (hw _ (List.mem_of_getElem? (i := 5) rfl))) (mvT (s := s.setVm s.vm) hZ (hw _ (List.mem_of_getElem? (i := 6) rfl))) (mvT (s := s.setVm s.vm) hZ (hw _ (List.mem_of_getElem? (i := 7) rfl))) (by decide) (backOfSH (s := s) (vm0 := s.vm) (EL := consts_1) (W := 1) (own_rm2 l Z a0 hw [] p0 cs sb h0 n0 Z0 S_c S_f (by assumption : ¬ (cs = (0 : Int32))) (by assumption : sb = .null ∨ ∃ x, sb = .ref x)) hZ (hw _ (List.mem_of_getElem? (i := 7) rfl)) (hw _ (List.mem_of_getElem? (i := 6) rfl)) (by decide) (by decide) (own_EW hw) CH0.1) (g := (mkF m 10 #[.val (.int p0), .val (.int p1), .val (.int (p1 &&& (127 : Int32)))] [(.int p0), (.int (own_F1 p0))])) rfl (by rw [hml]; rfl) (argsL := [(.int p0)]) (rest := [(.int (own_F1 p0))]) (lenOf own_pd5 rfl) rfl (by show 2 * 0 + _ ≤ _; exact Nat.le_of_eq rfl) (hb hby at_10) (fun _ _ => ⟨rfl, e512, (by decide : 0 + 11 ≤ _), (by decide : 0 + 196 ≤ _)⟩))
  obtain ⟨X513, hS513, hZ, hown⟩ := rebS (s := s) (vm0 := s.vm) own_since0 (Nat.zero_le _) X513 hT513 hg513 hZ hown
  have CH513 := CH0.trans hC513
  obtain ⟨-, -, K513, Q513_0⟩ := hQ513
  have S_c_514 := own_StaK S_c K513 all0
  have S_f_515 := own_StaK S_f K513 all0
  have Z516 := Nat.le_trans Z0 K513.1
  refine own_via st513 ?_
  show own_End p e below s _ _ _ (T513.setTop (mkF m 13 #[.val (.int p0), .val (.int p1), .val (.int (p1 &&& (127 : Int32)))] [(.int (own_F2 p0)), (.int (own_F1 p0))])) ReturnedEndW
  have hk517 : (own_F1 p0) = (own_F2 p0) := own_law _
  refine own_icN X513 hx (hb hby at_13) (teq hk517).2 (q := 16) rfl ?_
  refine own_iloadN X513 hx (hb hby at_16) rfl (q := 17) rfl ?_
  obtain ⟨T518, Lc518, L518, X518, N518, hQ518, st518⟩ := own_shutS (val := some (.int (own_F1 (p1 &&& (127 : Int32))))) (Q := own_Q1 Z (p1 &&& (127 : Int32)) T513.heap n0) (rc := 0) (rs := 0) N513 (fun _ _ _ q => ⟨q.1, q.2.1⟩) (Jvm.LawKit.callS X513 hx (y := (⟨"com/example/renkei/renkei/codec/SegmentEnds", "isIdUnit", "(I)Z"⟩ : MethodName)) hown (mvT hZ (hw _ (List.mem_of_getElem? (i := 0) rfl))) (mvT hZ (hw _ (List.mem_of_getElem? (i := 1) rfl))) (mvT hZ (hw _ (List.mem_of_getElem? (i := 2) rfl))) (mvT hZ (hw _ (List.mem_of_getElem? (i := 3) rfl))) (by decide) (backOf (W := 0) (own_rm1 l Z a0 hw [] (p1 &&& (127 : Int32)) T513.heap n0 Z516 ) hZ (hw _ (List.mem_of_getElem? (i := 3) rfl)) (hw _ (List.mem_of_getElem? (i := 2) rfl)) (by decide) (by decide)) (g := (mkF m 17 #[.val (.int p0), .val (.int p1), .val (.int (p1 &&& (127 : Int32)))] [(.int (p1 &&& (127 : Int32)))])) rfl (by rw [hml]; rfl) (argsL := [(.int (p1 &&& (127 : Int32)))]) (rest := []) (lenOf own_pd5 rfl) rfl (by show 2 * 0 + _ ≤ _; exact Nat.le_of_eq rfl) (hb hby at_17) (fun _ _ => ⟨rfl, rfl, (by decide : 11 + 0 ≤ _), (by decide : 196 + 0 ≤ _)⟩))
  obtain ⟨-, -, e518⟩ := hQ518
  refine own_back st518 ?_
  show own_End p e below s _ _ _ (T518.setTop (mkF m 20 #[.val (.int p0), .val (.int p1), .val (.int (p1 &&& (127 : Int32)))] [(.int (own_F1 (p1 &&& (127 : Int32))))])) ReturnedEndW
  refine own_iloadN X518 hx (hb hby at_20) rfl (q := 21) rfl ?_
  obtain ⟨T519, Lc519, L519, X519, N519, hQ519, hT519, hg519, hC519, st519⟩ := own_shutH (s := s) (vm0 := T513.vm) (val := some (.int (own_F2 (p1 &&& (127 : Int32))))) (Q := own_Q2 Z (p1 &&& (127 : Int32)) cs sb T513.heap n0) (rc := 11) (rs := 196) N518 (fun _ _ _ q => ⟨q.1, q.2.1⟩) (callSS (s := s.setVm T513.vm) X518 hx (y := (⟨"com/example/renkei/renkei/codec/SegmentEndsIsIdUnitPinLaw", "ref", "(I)Z"⟩ : MethodName)) hown (mvT (s := s.setVm T513.vm) hZ (hw _ (List.mem_of_getElem? (i := 4) rfl))) (mvT (s := s.setVm T513.vm) hZ (hw _ (List.mem_of_getElem? (i := 5) rfl))) (mvT (s := s.setVm T513.vm) hZ (hw _ (List.mem_of_getElem? (i := 6) rfl))) (mvT (s := s.setVm T513.vm) hZ (hw _ (List.mem_of_getElem? (i := 7) rfl))) (by decide) (backOfSH (s := s) (vm0 := T513.vm) (EL := consts_1) (W := 1) (own_rm2 l Z a0 hw [] (p1 &&& (127 : Int32)) cs sb T513.heap n0 Z516 S_c_514 S_f_515 (by assumption : ¬ (cs = (0 : Int32))) (by assumption : sb = .null ∨ ∃ x, sb = .ref x)) hZ (hw _ (List.mem_of_getElem? (i := 7) rfl)) (hw _ (List.mem_of_getElem? (i := 6) rfl)) (by decide) (by decide) (own_EW hw) CH513.1) (g := (mkF m 21 #[.val (.int p0), .val (.int p1), .val (.int (p1 &&& (127 : Int32)))] [(.int (p1 &&& (127 : Int32))), (.int (own_F1 (p1 &&& (127 : Int32))))])) rfl (by rw [hml]; rfl) (argsL := [(.int (p1 &&& (127 : Int32)))]) (rest := [(.int (own_F1 (p1 &&& (127 : Int32))))]) (lenOf own_pd5 rfl) rfl (by show 2 * 0 + _ ≤ _; exact Nat.le_of_eq rfl) (hb hby at_21) (fun _ _ => ⟨rfl, e518, (by decide : 11 + 11 ≤ _), (by decide : 196 + 196 ≤ _)⟩))
  obtain ⟨X519, hS519, hZ, hown⟩ := rebS (s := s) (vm0 := T513.vm) hS513 (by rw [e518]; exact (Nat.le_refl _)) X519 hT519 hg519 hZ hown
  have CH519 := CH513.trans hC519
  obtain ⟨-, -, K519, Q519_0⟩ := hQ519
  have S_c_520 := own_StaK S_c_514 K519 all0
  have S_f_521 := own_StaK S_f_515 K519 all0
  have Z522 := Nat.le_trans Z516 K519.1
  refine own_via st519 ?_
  show own_End p e below s _ _ _ (T519.setTop (mkF m 24 #[.val (.int p0), .val (.int p1), .val (.int (p1 &&& (127 : Int32)))] [(.int (own_F2 (p1 &&& (127 : Int32)))), (.int (own_F1 (p1 &&& (127 : Int32))))])) ReturnedEndW
  have hk523 : (own_F1 (p1 &&& (127 : Int32))) = (own_F2 (p1 &&& (127 : Int32))) := own_law _
  refine own_icN X519 hx (hb hby at_24) (teq hk523).2 (q := 27) rfl ?_
  refine own_iconst X519 hx (hb hby at_27) (z := 1) rfl (q := 28) rfl ?_
  refine own_goto X519 hx (hb hby at_28) (q := 32) (by decide) (by decide) ?_
  refine own_retNW X519 hx hS519 (Nat.le_refl _) (t := .boolean) (by simp) Bd.returns Bd.notSynchronized (by decide) (by decide) (hb hby at_32) ?_
  show own_Q0 Z p0 p1 cs sb h0 n0 _ T519.heap _
  exact ⟨rfl, N519⟩
theorem own_ne0 {t : Term} {args : Array Value} {first : State} {o : Option Outcome} {idx : List Nat} {s : State} {z : Int32} (e : t.eval args first o idx s = some (.int z)) (h : (Cond.not (Cond.eq t (.int 0))).value args first o s idx = some true) : ¬ (z = 0) := fun q => by
  subst q
  simp [Cond.value, Term.eval, e] at h
theorem own_isRef {t : Term} {args : Array Value} {first : State} {o : Option Outcome} {idx : List Nat} {s : State} (h : (Cond.isRef t).value args first o s idx = some true) : ∃ v, t.eval args first o idx s = some v ∧ (v = .null ∨ ∃ x, v = .ref x) := by
  simp only [Cond.value] at h; cases ht : t.eval args first o idx s with | none => simp [ht] at h | some x => cases x <;> simp [ht] at h ⊢

set_option maxRecDepth 65536 in
set_option maxHeartbeats 40000000 in
theorem comes_1 {Post : Tables → Env → Array Value → State → Outcome → State → Prop} (hpost : ∀ tb e args s v u, (limb_1_1.after args s (.returned v) u = true ∧ limb_1_2.after args s (.returned v) u = true ∧ True) → FramedW s (.returned v) u (Jvm.fieldLocs frame_1_writes args s ++ Jvm.arrayLocs frame_1_arrays args s ++ Jvm.staticLocs frame_1_statics s) 24 5312 → Post tb e args s (.returned v) u) :
    ArmFor flags0 classFile x code maxLocals ret World_1 tables_1 room_1 Calls_1 rest_1 Pre_1 Post := by
  intro l hfl _ _ p e ha hc hk s m args below hf hA hF happ hP
  obtain ⟨hcalls, hrest, hpre⟩ := hP
  obtain ⟨-, -, -, hnamed, -, -, -, hat⟩ := (Spec.applies_iff hf).mp happ
  obtain ⟨hg, hn⟩ := and_e (Cond.before_iff.mp (show (Jvm.Cond.and given_1 narrow_1).before args s = true from hpre))
  obtain ⟨g525, g526⟩ := and_e hg
  obtain ⟨g527, g528⟩ := and_e g526
  obtain ⟨w0, w1, rfl⟩ : ∃ w0 w1 : Value, args = #[w0, w1] := by
    have hs : args.size = 2 := by simpa [Cond.value, given_1] using g525
    obtain ⟨L⟩ := args
    match L, hs with
    | [w0, w1], _ => exact ⟨w0, w1, rfl⟩
  have hw := fun d (hd : d ∈ tables_1) => atoms_spec (ws := Jvm.Cond.code x code maxLocals ret :: tables_1) hat d (List.mem_cons_of_mem _ hd)
  have hfit : Fit s := fun {y c} hc i hi => by
    obtain ⟨ha, rfl⟩ := Array.getElem?_eq_some_iff.mp hc
    have q := List.all_eq_true.mp ((Array.all_eq_true_iff_forall_mem.mp hF) _ (Array.getElem_mem ha)) i (List.mem_range.mpr hi)
    simpa [Array.getElem?_eq_getElem hi] using q
  obtain ⟨i0, ei0⟩ := is_v g527
  obtain rfl : w0 = (.int i0) := Option.some.inj ei0
  obtain ⟨i1, ei1⟩ := is_v g528
  obtain rfl : w1 = (.int i1) := Option.some.inj ei1
  have r0 := Cond.before_iff.mp (show rest_1_c.before _ s = true from hrest)
  obtain ⟨u0, r1⟩ := and_e r0
  obtain ⟨u1, r2⟩ := and_e r1
  obtain ⟨u2, r3⟩ := and_e r2
  obtain ⟨u3, r4⟩ := and_e r3
  obtain ⟨u4, r5⟩ := and_e r4
  obtain ⟨u5, r6⟩ := and_e r5
  obtain ⟨u6, r7⟩ := and_e r6
  obtain ⟨u7, r8⟩ := and_e r7
  obtain ⟨u8, r9⟩ := and_e r8
  obtain ⟨cs, ecs⟩ := is_v u1
  have S_c : Sta s s.heap "java/lang/String" "COMPACT_STRINGS" "Z" (.int cs) := Sta.start ecs (Or.inl (Cond.before_iff.mpr u0))
  have hcs : ¬ (cs = (0 : Int32)) := own_ne0 ecs u2
  obtain ⟨sb, esb, hsb⟩ := own_isRef u8
  have S_f : Sta s s.heap "jdk/internal/util/Preconditions" "SIOOBE_FORMATTER" "Ljava/util/function/BiFunction;" sb := Sta.start esb (Or.inl (Cond.before_iff.mpr u7))
  have hCH : CHv s consts_1 s.vm s.heap := CHv.start (own_EW hw) (fun p hp => hcalls.1 p hp) (Cond.before_iff.mpr u2) (hw _ (List.mem_of_getElem? (i := 13) rfl)) (hw _ (List.mem_of_getElem? (i := 12) rfl))
  obtain ⟨n, o, h1, h2, h3, _, L, rfl, ⟨hv, N⟩, hq⟩ := own_rm0 l s _ hw tables_1 i0 i1 cs sb s.heap s.heap.size (Nat.le_refl _) S_c S_f hcs hsb p e ha hc hk s m _ below hf ((Spec.applies_iff_loose hf).mp happ).1 ⟨rfl, State.Warmed39.refl s, rfl, hCH⟩ trivial
  subst hv
  refine ⟨n, _, h1, h2, h3, hpost _ _ _ _ _ _ ⟨Cond.after_iff.mpr rfl, Cond.after_iff.mpr (eq_i res_at (Term.int_eval (1)) rfl), trivial⟩ ⟨hq.1, hq.2.1, hq.2.2.1, (hq.2.2.2.sift fun y hy => Or.inr (N y hy)).mono (by decide) (by decide)⟩⟩
theorem main_1_1 : Claimed_1_1 := comes_1 fun _ _ _ _ _ _ h hF => ⟨h.1, hF⟩
theorem main_1_2 : Claimed_1_2 := comes_1 fun _ _ _ _ _ _ h hF => ⟨h.2.1, hF⟩
end Jvm.Pilot.@@N@@
namespace Jvm.Pilot.@@N@@
open Jvm Jvm.ClassFile Sem Op Lib Jvm.Free Jvm.Stand Jvm.Pilot.@@N@@.Jvm.D
/-! MADE BY PROGRAM (witnessworld.py) out of the Statement's table words and the real class files: 18 classes; the members and pool entries that the words name. The judged class is class 1, her method 2. -/
namespace start1
open Jvm.ClassFile
def u (s : String) : CpInfo := .utf8 (stringToUtf16 s)
/-- a pool by its gaps: so many unusable entries, then the entry; so many at the end -/
def gap : Nat → List CpInfo → List CpInfo
  | 0, r => r
  | n + 1, r => .unusable :: gap n r
def poolList (es : List (Nat × CpInfo)) (last : Nat) : List CpInfo := es.foldr (fun e r => gap e.1 (e.2 :: r)) (gap last [])
def pool (es : List (Nat × CpInfo)) (last : Nat) : Array CpInfo := ⟨poolList es last⟩
def fileOf (pool : Array CpInfo) (this : Nat) (attrs : Array Attribute := #[]) (ms : Array MethodInfo := #[]) (fl : Nat := 33) (sup : Nat := 0) (ifs : Array Nat := #[]) (fds : Array FieldInfo := #[]) : ClassFile where
  minorVersion := 0
  majorVersion := 65
  constantPool := pool
  accessFlags := fl
  thisClass := this
  superClass := sup
  interfaces := ifs
  fields := fds
  methods := ms
  attributes := attrs
def plain (name : String) (sup : Option ClassId) : Class where
  name := name
  kind := .ordinary
  loader := none
  accessFlags := 33
  super := sup
  interfaces := #[]
  cf := none
  fields := #[]
  methods := #[]
  instanceTypes := #[]
  staticTypes := #[]
  resolved := #[]
  callSites := []
  init := .initialized
  statics := none
  mirror := none

def pool0 : Array CpInfo := pool [(5, u "<init>"), (0, u "()V"), (1, .class_ 10), (1, u "java/lang/Object")] 113

def k0m0 : Method := { name := "<init>", desc := "()V", sig := { parameters := [], returnType := none }, accessFlags := 1, code := none }
/-- java/lang/Object -/
def k0 : Class := { plain "java/lang/Object" none with
  accessFlags := 33
  interfaces := #[]
  cf := some (fileOf pool0 8 #[] #[{ accessFlags := 1, nameIndex := 5, descriptorIndex := 6, attributes := #[] }] 33 0 #[] #[])
  fields := #[]
  methods := #[k0m0]
  instanceTypes := #[]
  staticTypes := #[]
  resolved := Array.replicate 124 none
  statics := none }

def pool1 : Array CpInfo := pool [(2, .class_ 4), (1, u "java/lang/Object"), (0, u "<init>"), (0, u "()V"), (0, .class_ 8), (0, u "java/lang/String"), (0, .string 10), (0, u "00000000"), (0, .string 12), (0, u "11111111"), (0, .string 14), (0, u "11000000"), (0, .string 16), (0, u "01111111"), (0, .string 18), (0, u "11100000"), (0, .methodref 7 20), (0, .nameAndType 21 22), (0, u "charAt"), (0, u "(I)C"), (0, .methodref 24 25), (0, .class_ 26), (0, .nameAndType 27 28), (0, u "com/example/renkei/renkei/codec/SegmentEnds"), (0, u "isIdUnit"), (0, u "(I)Z"), (0, .methodref 30 31), (0, .class_ 32), (0, .nameAndType 33 28), (0, u "com/example/renkei/renkei/codec/SegmentEndsIsIdUnitPinLaw"), (0, u "ref"), (5, u "law"), (0, u "(II)Z")] 2

def k1m0 : Method := { name := "<init>", desc := "()V", sig := { parameters := [], returnType := none }, accessFlags := 2, code := none }
def k1c1 : Code := { maxStack := 4, maxLocals := 2, code := method_2_code, exceptionTable := #[], attributes := #[] }
def k1m1 : Method := { name := "ref", desc := "(I)Z", sig := { parameters := [.int], returnType := some .boolean }, accessFlags := 10, code := some k1c1 }
def k1c2 : Code := { maxStack := 2, maxLocals := 3, code := code, exceptionTable := #[], attributes := #[] }
def k1m2 : Method := { name := "law", desc := "(II)Z", sig := { parameters := [.int, .int], returnType := some .boolean }, accessFlags := 9, code := some k1c2 }
/-- com/example/renkei/renkei/codec/SegmentEndsIsIdUnitPinLaw -/
def k1 : Class := { plain "com/example/renkei/renkei/codec/SegmentEndsIsIdUnitPinLaw" (some 0) with
  accessFlags := 49
  interfaces := #[]
  cf := some (fileOf pool1 30 #[] #[{ accessFlags := 2, nameIndex := 5, descriptorIndex := 6, attributes := #[] }, { accessFlags := 10, nameIndex := 33, descriptorIndex := 28, attributes := #[] }, { accessFlags := 9, nameIndex := 39, descriptorIndex := 40, attributes := #[] }] 49 2 #[] #[])
  fields := #[]
  methods := #[k1m0, k1m1, k1m2]
  instanceTypes := #[]
  staticTypes := #[]
  resolved := Array.replicate 43 none
  statics := none }

def pool2 : Array CpInfo := pool [(2, .class_ 4), (1, u "java/lang/Object"), (0, u "<init>"), (0, u "()V"), (0, .class_ 8), (0, u "com/example/renkei/renkei/codec/SegmentEnds"), (8, u "isIdUnit"), (0, u "(I)Z"), (5, u "I"), (0, u "LF"), (0, u "C"), (2, u "ID_LENGTH")] 8

def k2m0 : Method := { name := "<init>", desc := "()V", sig := { parameters := [], returnType := none }, accessFlags := 2, code := none }
def k2c1 : Code := { maxStack := 2, maxLocals := 1, code := prog_22_method_2_code, exceptionTable := #[], attributes := #[] }
def k2m1 : Method := { name := "isIdUnit", desc := "(I)Z", sig := { parameters := [.int], returnType := some .boolean }, accessFlags := 8, code := some k2c1 }
/-- com/example/renkei/renkei/codec/SegmentEnds -/
def k2 : Class := { plain "com/example/renkei/renkei/codec/SegmentEnds" (some 0) with
  accessFlags := 48
  interfaces := #[]
  cf := some (fileOf pool2 7 #[] #[{ accessFlags := 2, nameIndex := 5, descriptorIndex := 6, attributes := #[] }, { accessFlags := 8, nameIndex := 17, descriptorIndex := 18, attributes := #[] }] 48 2 #[] #[{ accessFlags := 24, nameIndex := 25, descriptorIndex := 26, attributes := #[] }, { accessFlags := 26, nameIndex := 29, descriptorIndex := 24, attributes := #[] }])
  fields := #[{ name := "LF", type := .char, accessFlags := 24, slot := 0, constantValue := 0 }, { name := "ID_LENGTH", type := .int, accessFlags := 26, slot := 1, constantValue := 0 }]
  methods := #[k2m0, k2m1]
  instanceTypes := #[]
  staticTypes := #[.char, .int]
  resolved := Array.replicate 38 none
  statics := none }

def pool3 : Array CpInfo := pool [(1, .class_ 2), (0, u "java/io/Serializable"), (0, .class_ 4), (0, u "java/lang/Object")] 2

/-- java/io/Serializable -/
def k3 : Class := { plain "java/io/Serializable" (some 0) with
  accessFlags := 1537
  interfaces := #[]
  cf := some (fileOf pool3 1 #[] #[] 1537 3 #[] #[])
  fields := #[]
  methods := #[]
  instanceTypes := #[]
  staticTypes := #[]
  resolved := Array.replicate 7 none
  statics := none }

def pool4 : Array CpInfo := pool [(1, .class_ 2), (0, u "java/lang/Comparable"), (0, .class_ 4), (0, u "java/lang/Object")] 7

/-- java/lang/Comparable -/
def k4 : Class := { plain "java/lang/Comparable" (some 0) with
  accessFlags := 1537
  interfaces := #[]
  cf := some (fileOf pool4 1 #[] #[] 1537 3 #[] #[])
  fields := #[]
  methods := #[]
  instanceTypes := #[]
  staticTypes := #[]
  resolved := Array.replicate 12 none
  statics := none }

def pool5 : Array CpInfo := pool [(2, .class_ 4), (1, u "java/lang/CharSequence"), (42, .class_ 48), (0, u "java/lang/CharSequence$1CodePointIterator"), (10, .class_ 60), (0, u "java/lang/CharSequence$1CharIterator"), (5, .class_ 67), (0, u "java/lang/Object")] 63

/-- java/lang/CharSequence -/
def k5 : Class := { plain "java/lang/CharSequence" (some 0) with
  accessFlags := 1537
  interfaces := #[]
  cf := some (fileOf pool5 2 #[.nestMembers #[47, 59]] #[] 1537 66 #[] #[])
  fields := #[]
  methods := #[]
  instanceTypes := #[]
  staticTypes := #[]
  resolved := Array.replicate 131 none
  statics := none }

def pool6 : Array CpInfo := pool [(1, .class_ 2), (0, u "java/lang/constant/Constable"), (0, .class_ 4), (0, u "java/lang/Object")] 6

/-- java/lang/constant/Constable -/
def k6 : Class := { plain "java/lang/constant/Constable" (some 0) with
  accessFlags := 1537
  interfaces := #[]
  cf := some (fileOf pool6 1 #[] #[] 1537 3 #[] #[])
  fields := #[]
  methods := #[]
  instanceTypes := #[]
  staticTypes := #[]
  resolved := Array.replicate 11 none
  statics := none }

def pool7 : Array CpInfo := pool [(1, .class_ 2), (0, u "java/lang/constant/ConstantDesc"), (0, .class_ 4), (0, u "java/lang/Object")] 32

/-- java/lang/constant/ConstantDesc -/
def k7 : Class := { plain "java/lang/constant/ConstantDesc" (some 0) with
  accessFlags := 1537
  interfaces := #[]
  cf := some (fileOf pool7 1 #[] #[] 1537 3 #[] #[])
  fields := #[]
  methods := #[]
  instanceTypes := #[]
  staticTypes := #[]
  resolved := Array.replicate 37 none
  statics := none }

def pool8 : Array CpInfo := pool [(2, .class_ 4), (1, u "java/lang/Object"), (0, u "<init>"), (0, u "()V"), (2, .fieldref 10 11), (0, .class_ 12), (0, .nameAndType 13 14), (0, u "java/lang/String"), (0, u "value"), (0, u "[B"), (0, .fieldref 10 16), (0, .nameAndType 17 18), (0, u "coder"), (0, u "B"), (2, u "hash"), (0, u "I"), (2, u "hashIsZero"), (0, u "Z"), (11, .fieldref 10 39), (0, .nameAndType 40 26), (0, u "COMPACT_STRINGS"), (66, .class_ 109), (1, u "java/lang/StringLatin1"), (32, u "()Z"), (220, u "([BI)C"), (27, u "(II)V"), (35, u "(I)C"), (64, .methodref 10 493), (0, .nameAndType 494 142), (0, u "isLatin1"), (0, .methodref 107 496), (0, .nameAndType 497 363), (0, u "charAt"), (3, u "checkIndex"), (73, .class_ 576), (0, u "java/lang/CharSequence"), (22, u "CASE_INSENSITIVE_ORDER"), (0, u "Ljava/util/Comparator;"), (452, .fieldref 1054 1055), (0, .class_ 1056), (0, .nameAndType 1057 1058), (0, u "jdk/internal/util/Preconditions"), (0, u "SIOOBE_FORMATTER"), (0, u "Ljava/util/function/BiFunction;"), (0, .methodref 1054 1060), (0, .nameAndType 501 1061), (0, u "(IILjava/util/function/BiFunction;)I"), (39, u "serialPersistentFields"), (0, u "[Ljava/io/ObjectStreamField;"), (0, .class_ 1104), (0, u "java/lang/String$CaseInsensitiveComparator"), (1, .class_ 1107), (0, u "java/io/Serializable"), (0, .class_ 1109), (0, u "java/lang/Comparable"), (0, .class_ 1111), (0, u "java/lang/constant/Constable"), (0, .class_ 1113), (0, u "java/lang/constant/ConstantDesc"), (2, u "serialVersionUID"), (0, u "J"), (3, u "REPL"), (0, u "C"), (2, u "LATIN1"), (1, u "UTF16")] 323

def k8m0 : Method := { name := "<init>", desc := "()V", sig := { parameters := [], returnType := none }, accessFlags := 1, code := none }
def k8c1 : Code := { maxStack := 2, maxLocals := 2, code := jdk_42_method_56_code, exceptionTable := #[], attributes := #[] }
def k8m1 : Method := { name := "charAt", desc := "(I)C", sig := { parameters := [.int], returnType := some .char }, accessFlags := 1, code := some k8c1 }
def k8c2 : Code := { maxStack := 1, maxLocals := 1, code := jdk_42_method_154_code, exceptionTable := #[], attributes := #[] }
def k8m2 : Method := { name := "isLatin1", desc := "()Z", sig := { parameters := [], returnType := some .boolean }, accessFlags := 0, code := some k8c2 }
def k8c3 : Code := { maxStack := 3, maxLocals := 2, code := jdk_42_method_155_code, exceptionTable := #[], attributes := #[] }
def k8m3 : Method := { name := "checkIndex", desc := "(II)V", sig := { parameters := [.int, .int], returnType := none }, accessFlags := 8, code := some k8c3 }
/-- java/lang/String -/
def k8 : Class := { plain "java/lang/String" (some 0) with
  accessFlags := 49
  interfaces := #[3, 4, 5, 6, 7]
  cf := some (fileOf pool8 10 #[.nestMembers #[1103]] #[{ accessFlags := 1, nameIndex := 5, descriptorIndex := 6, attributes := #[] }, { accessFlags := 1, nameIndex := 497, descriptorIndex := 427, attributes := #[] }, { accessFlags := 0, nameIndex := 494, descriptorIndex := 142, attributes := #[] }, { accessFlags := 8, nameIndex := 501, descriptorIndex := 391, attributes := #[] }] 49 2 #[1106, 1108, 575, 1110, 1112] #[{ accessFlags := 18, nameIndex := 13, descriptorIndex := 14, attributes := #[] }, { accessFlags := 18, nameIndex := 17, descriptorIndex := 18, attributes := #[] }, { accessFlags := 2, nameIndex := 21, descriptorIndex := 22, attributes := #[] }, { accessFlags := 2, nameIndex := 25, descriptorIndex := 26, attributes := #[] }, { accessFlags := 26, nameIndex := 1116, descriptorIndex := 1117, attributes := #[] }, { accessFlags := 24, nameIndex := 40, descriptorIndex := 26, attributes := #[] }, { accessFlags := 26, nameIndex := 1101, descriptorIndex := 1102, attributes := #[] }, { accessFlags := 26, nameIndex := 1121, descriptorIndex := 1122, attributes := #[] }, { accessFlags := 25, nameIndex := 599, descriptorIndex := 600, attributes := #[] }, { accessFlags := 24, nameIndex := 1125, descriptorIndex := 18, attributes := #[] }, { accessFlags := 24, nameIndex := 1127, descriptorIndex := 18, attributes := #[] }])
  fields := #[{ name := "value", type := (.array .byte), accessFlags := 18, slot := 0, constantValue := 0 }, { name := "coder", type := .byte, accessFlags := 18, slot := 1, constantValue := 0 }, { name := "hash", type := .int, accessFlags := 2, slot := 2, constantValue := 0 }, { name := "hashIsZero", type := .boolean, accessFlags := 2, slot := 3, constantValue := 0 }, { name := "serialVersionUID", type := .long, accessFlags := 26, slot := 0, constantValue := 0 }, { name := "COMPACT_STRINGS", type := .boolean, accessFlags := 24, slot := 1, constantValue := 0 }, { name := "serialPersistentFields", type := (.array (.object "java/io/ObjectStreamField")), accessFlags := 26, slot := 2, constantValue := 0 }, { name := "REPL", type := .char, accessFlags := 26, slot := 3, constantValue := 0 }, { name := "CASE_INSENSITIVE_ORDER", type := (.object "java/util/Comparator"), accessFlags := 25, slot := 4, constantValue := 0 }, { name := "LATIN1", type := .byte, accessFlags := 24, slot := 5, constantValue := 0 }, { name := "UTF16", type := .byte, accessFlags := 24, slot := 6, constantValue := 0 }]
  methods := #[k8m0, k8m1, k8m2, k8m3]
  instanceTypes := #[(.array .byte), .byte, .int, .boolean]
  staticTypes := #[.long, .boolean, (.array (.object "java/io/ObjectStreamField")), .char, (.object "java/util/Comparator"), .byte, .byte]
  resolved := Array.replicate 1451 none
  statics := some 0 }

def pool9 : Array CpInfo := pool [(1, .class_ 2), (0, u "java/lang/String"), (1, .class_ 6), (1, u "java/lang/Object"), (0, u "<init>"), (0, u "()V"), (0, .methodref 1 10), (0, .nameAndType 11 12), (0, u "checkIndex"), (0, u "(II)V"), (1, .class_ 16), (1, u "java/lang/StringLatin1"), (36, u "([BI)C"), (67, u "$assertionsDisabled"), (0, u "Z"), (98, .class_ 223), (1, u "java/lang/StringLatin1$LinesSpliterator"), (28, u "charAt"), (137, .class_ 391), (0, u "java/lang/StringLatin1$CharsSpliterator")] 3

def k9m0 : Method := { name := "<init>", desc := "()V", sig := { parameters := [], returnType := none }, accessFlags := 0, code := none }
def k9c1 : Code := { maxStack := 2, maxLocals := 2, code := jdk_43_method_2_code, exceptionTable := #[], attributes := #[] }
def k9m1 : Method := { name := "charAt", desc := "([BI)C", sig := { parameters := [(.array .byte), .int], returnType := some .char }, accessFlags := 9, code := some k9c1 }
/-- java/lang/StringLatin1 -/
def k9 : Class := { plain "java/lang/StringLatin1" (some 0) with
  accessFlags := 48
  interfaces := #[]
  cf := some (fileOf pool9 14 #[.nestMembers #[390, 221]] #[{ accessFlags := 0, nameIndex := 7, descriptorIndex := 8, attributes := #[] }, { accessFlags := 9, nameIndex := 252, descriptorIndex := 53, attributes := #[] }] 48 4 #[] #[{ accessFlags := 4120, nameIndex := 121, descriptorIndex := 122, attributes := #[] }])
  fields := #[{ name := "$assertionsDisabled", type := .boolean, accessFlags := 4120, slot := 0, constantValue := 0 }]
  methods := #[k9m0, k9m1]
  instanceTypes := #[]
  staticTypes := #[.boolean]
  resolved := Array.replicate 395 none
  statics := none }

def pool10 : Array CpInfo := pool [(2, .class_ 4), (1, u "java/lang/Object"), (0, u "<init>"), (0, u "()V"), (17, .class_ 26), (1, u "jdk/internal/util/Preconditions"), (6, u "checkIndex"), (21, .class_ 56), (0, u "jdk/internal/util/Preconditions$4"), (57, .class_ 115), (0, u "jdk/internal/util/Preconditions$1"), (7, u "SIOOBE_FORMATTER"), (0, u "Ljava/util/function/BiFunction;"), (0, .class_ 126), (0, u "jdk/internal/util/Preconditions$2"), (3, u "AIOOBE_FORMATTER"), (0, .class_ 132), (0, u "jdk/internal/util/Preconditions$3"), (3, u "IOOBE_FORMATTER"), (41, u "(IILjava/util/function/BiFunction;)I")] 15

def k10m0 : Method := { name := "<init>", desc := "()V", sig := { parameters := [], returnType := none }, accessFlags := 1, code := none }
def k10c1 : Code := { maxStack := 3, maxLocals := 3, code := jdk_41_method_11_code, exceptionTable := #[], attributes := #[] }
def k10m1 : Method := { name := "checkIndex", desc := "(IILjava/util/function/BiFunction;)I", sig := { parameters := [.int, .int, (.object "java/util/function/BiFunction")], returnType := some .int }, accessFlags := 9, code := some k10c1 }
/-- jdk/internal/util/Preconditions -/
def k10 : Class := { plain "jdk/internal/util/Preconditions" (some 0) with
  accessFlags := 33
  interfaces := #[]
  cf := some (fileOf pool10 24 #[.nestMembers #[55, 131, 125, 114]] #[{ accessFlags := 1, nameIndex := 5, descriptorIndex := 6, attributes := #[] }, { accessFlags := 9, nameIndex := 33, descriptorIndex := 178, attributes := #[] }] 33 2 #[] #[{ accessFlags := 25, nameIndex := 123, descriptorIndex := 124, attributes := #[] }, { accessFlags := 25, nameIndex := 130, descriptorIndex := 124, attributes := #[] }, { accessFlags := 25, nameIndex := 136, descriptorIndex := 124, attributes := #[] }])
  fields := #[{ name := "SIOOBE_FORMATTER", type := (.object "java/util/function/BiFunction"), accessFlags := 25, slot := 0, constantValue := 0 }, { name := "AIOOBE_FORMATTER", type := (.object "java/util/function/BiFunction"), accessFlags := 25, slot := 1, constantValue := 0 }, { name := "IOOBE_FORMATTER", type := (.object "java/util/function/BiFunction"), accessFlags := 25, slot := 2, constantValue := 0 }]
  methods := #[k10m0, k10m1]
  instanceTypes := #[]
  staticTypes := #[(.object "java/util/function/BiFunction"), (.object "java/util/function/BiFunction"), (.object "java/util/function/BiFunction")]
  resolved := Array.replicate 194 none
  statics := some 1 }

def pool11 : Array CpInfo := pool [(9, u "<init>"), (6, .class_ 18), (1, u "java/lang/Object"), (0, u "()V"), (1, .class_ 23), (1, u "jdk/internal/util/ArraysSupport"), (0, u "LOG2_ARRAY_LONG_INDEX_SCALE"), (0, u "I"), (2, u "U"), (0, u "Ljdk/internal/misc/Unsafe;"), (8, u "BIG_ENDIAN"), (0, u "Z"), (8, u "LOG2_BYTE_BIT_SIZE"), (4, u "LOG2_ARRAY_INT_INDEX_SCALE"), (54, u "JLA"), (0, u "Ljdk/internal/access/JavaLangAccess;"), (11, u "LOG2_ARRAY_BOOLEAN_INDEX_SCALE"), (9, u "LOG2_ARRAY_BYTE_INDEX_SCALE"), (5, u "LOG2_ARRAY_CHAR_INDEX_SCALE"), (5, u "LOG2_ARRAY_SHORT_INDEX_SCALE"), (18, u "LOG2_ARRAY_FLOAT_INDEX_SCALE"), (24, u "LOG2_ARRAY_DOUBLE_INDEX_SCALE"), (89, u "T_BOOLEAN"), (2, u "T_CHAR"), (1, u "T_FLOAT"), (1, u "T_DOUBLE"), (1, u "T_BYTE"), (1, u "T_SHORT"), (1, u "T_INT"), (1, u "T_LONG"), (1, u "SOFT_MAX_ARRAY_LENGTH")] 83

def k11m0 : Method := { name := "<init>", desc := "()V", sig := { parameters := [], returnType := none }, accessFlags := 2, code := none }
/-- jdk/internal/util/ArraysSupport -/
def k11 : Class := { plain "jdk/internal/util/ArraysSupport" (some 0) with
  accessFlags := 33
  interfaces := #[]
  cf := some (fileOf pool11 21 #[] #[{ accessFlags := 2, nameIndex := 9, descriptorIndex := 19, attributes := #[] }] 33 16 #[] #[{ accessFlags := 24, nameIndex := 28, descriptorIndex := 29, attributes := #[] }, { accessFlags := 26, nameIndex := 38, descriptorIndex := 39, attributes := #[] }, { accessFlags := 25, nameIndex := 121, descriptorIndex := 25, attributes := #[] }, { accessFlags := 25, nameIndex := 131, descriptorIndex := 25, attributes := #[] }, { accessFlags := 25, nameIndex := 137, descriptorIndex := 25, attributes := #[] }, { accessFlags := 25, nameIndex := 143, descriptorIndex := 25, attributes := #[] }, { accessFlags := 25, nameIndex := 53, descriptorIndex := 25, attributes := #[] }, { accessFlags := 25, nameIndex := 24, descriptorIndex := 25, attributes := #[] }, { accessFlags := 25, nameIndex := 162, descriptorIndex := 25, attributes := #[] }, { accessFlags := 25, nameIndex := 187, descriptorIndex := 25, attributes := #[] }, { accessFlags := 26, nameIndex := 48, descriptorIndex := 25, attributes := #[] }, { accessFlags := 25, nameIndex := 277, descriptorIndex := 25, attributes := #[] }, { accessFlags := 25, nameIndex := 280, descriptorIndex := 25, attributes := #[] }, { accessFlags := 25, nameIndex := 282, descriptorIndex := 25, attributes := #[] }, { accessFlags := 25, nameIndex := 284, descriptorIndex := 25, attributes := #[] }, { accessFlags := 25, nameIndex := 286, descriptorIndex := 25, attributes := #[] }, { accessFlags := 25, nameIndex := 288, descriptorIndex := 25, attributes := #[] }, { accessFlags := 25, nameIndex := 290, descriptorIndex := 25, attributes := #[] }, { accessFlags := 25, nameIndex := 292, descriptorIndex := 25, attributes := #[] }, { accessFlags := 26, nameIndex := 108, descriptorIndex := 109, attributes := #[] }, { accessFlags := 25, nameIndex := 294, descriptorIndex := 25, attributes := #[] }])
  fields := #[{ name := "U", type := (.object "jdk/internal/misc/Unsafe"), accessFlags := 24, slot := 0, constantValue := 0 }, { name := "BIG_ENDIAN", type := .boolean, accessFlags := 26, slot := 1, constantValue := 0 }, { name := "LOG2_ARRAY_BOOLEAN_INDEX_SCALE", type := .int, accessFlags := 25, slot := 2, constantValue := 0 }, { name := "LOG2_ARRAY_BYTE_INDEX_SCALE", type := .int, accessFlags := 25, slot := 3, constantValue := 0 }, { name := "LOG2_ARRAY_CHAR_INDEX_SCALE", type := .int, accessFlags := 25, slot := 4, constantValue := 0 }, { name := "LOG2_ARRAY_SHORT_INDEX_SCALE", type := .int, accessFlags := 25, slot := 5, constantValue := 0 }, { name := "LOG2_ARRAY_INT_INDEX_SCALE", type := .int, accessFlags := 25, slot := 6, constantValue := 0 }, { name := "LOG2_ARRAY_LONG_INDEX_SCALE", type := .int, accessFlags := 25, slot := 7, constantValue := 0 }, { name := "LOG2_ARRAY_FLOAT_INDEX_SCALE", type := .int, accessFlags := 25, slot := 8, constantValue := 0 }, { name := "LOG2_ARRAY_DOUBLE_INDEX_SCALE", type := .int, accessFlags := 25, slot := 9, constantValue := 0 }, { name := "LOG2_BYTE_BIT_SIZE", type := .int, accessFlags := 26, slot := 10, constantValue := 0 }, { name := "T_BOOLEAN", type := .int, accessFlags := 25, slot := 11, constantValue := 0 }, { name := "T_CHAR", type := .int, accessFlags := 25, slot := 12, constantValue := 0 }, { name := "T_FLOAT", type := .int, accessFlags := 25, slot := 13, constantValue := 0 }, { name := "T_DOUBLE", type := .int, accessFlags := 25, slot := 14, constantValue := 0 }, { name := "T_BYTE", type := .int, accessFlags := 25, slot := 15, constantValue := 0 }, { name := "T_SHORT", type := .int, accessFlags := 25, slot := 16, constantValue := 0 }, { name := "T_INT", type := .int, accessFlags := 25, slot := 17, constantValue := 0 }, { name := "T_LONG", type := .int, accessFlags := 25, slot := 18, constantValue := 0 }, { name := "JLA", type := (.object "jdk/internal/access/JavaLangAccess"), accessFlags := 26, slot := 19, constantValue := 0 }, { name := "SOFT_MAX_ARRAY_LENGTH", type := .int, accessFlags := 25, slot := 20, constantValue := 0 }]
  methods := #[k11m0]
  instanceTypes := #[]
  staticTypes := #[(.object "jdk/internal/misc/Unsafe"), .boolean, .int, .int, .int, .int, .int, .int, .int, .int, .int, .int, .int, .int, .int, .int, .int, .int, .int, (.object "jdk/internal/access/JavaLangAccess"), .int]
  resolved := Array.replicate 378 none
  statics := none }

def pool12 : Array CpInfo := pool [(1, u "java/lang/Cloneable"), (0, .class_ 1), (0, u "java/lang/Object"), (0, .class_ 3)] 3

/-- java/lang/Cloneable -/
def k12 : Class := { plain "java/lang/Cloneable" (some 0) with
  accessFlags := 1537
  interfaces := #[]
  cf := some (fileOf pool12 2 #[] #[] 1537 4 #[] #[])
  fields := #[]
  methods := #[]
  instanceTypes := #[]
  staticTypes := #[]
  resolved := Array.replicate 8 none
  statics := none }

/-- the primitive byte -/
def k13 : Class := { plain "byte" none with kind := .primitive 'B', accessFlags := 0x411 }
/-- [B -/
def k14 : Class := { plain "[B" (some 0) with kind := .array 13 .byte, interfaces := #[12, 3], accessFlags := 1041 }

/-- the primitive int -/
def k15 : Class := { plain "int" none with kind := .primitive 'I', accessFlags := 0x411 }
/-- [I -/
def k16 : Class := { plain "[I" (some 0) with kind := .array 15 .int, interfaces := #[12, 3], accessFlags := 1041 }

/-- [Ljava/lang/String; -/
def k17 : Class := { plain "[Ljava/lang/String;" (some 0) with kind := .array 8 (.object "java/lang/String"), interfaces := #[12, 3], accessFlags := 1041 }

def heap : Heap := #[{ cls := 8, slots := #[.long 0, .int 1, .null, .int 0, .null, .int 0, .int 0], vm := .statics 8 },
  { cls := 10, slots := #[.null, .null, .null], vm := .statics 10 }]
def classes : Array Class := #[k0, k1, k2, k3, k4, k5, k6, k7, k8, k9, k10, k11, k12, k13, k14, k15, k16, k17]
def interned : List (Array UInt16 × Addr) := []
def slotsUsed : Nat := 10
def theMethod : MethodId := ⟨1, 2⟩
def args0 : Array Value := #[.int 3, .int 4]
def aboutOver (below : List Frame) : State where
  vm := { classes := classes, interned := interned.toArray }
  heap := heap
  slotsUsed := slotsUsed
  threads := #[{ frames := .invoking theMethod args0 :: below }]
def below0 : List Frame := [.native { method := ⟨0, 0⟩, args := #[] }]
def about1 : State := aboutOver below0
def p0 : Program := .bare "" "" ""
def e0 : Env := launch0.env 0 0 0
theorem w_frames : about1.frames = Frame.invoking theMethod args0 :: below0 := rfl
set_option maxRecDepth 65536 in
theorem w_args : argsFit about1.vm theMethod args0 = true := by decide +kernel
set_option maxRecDepth 65536 in
theorem w_heap : heapFits about1 = true := by decide +kernel
set_option maxRecDepth 65536 in
theorem w_runnable : about1.curStatus? = some .runnable := by decide +kernel
set_option maxRecDepth 65536 in
theorem w_alone : about1.alone = true := by decide +kernel
set_option maxRecDepth 65536 in
theorem w_named : about1.methodNamed? x = some theMethod := by decide +kernel
set_option maxRecDepth 65536 in
theorem w_hears : about1.hears theMethod below0 = true := by decide +kernel
set_option maxRecDepth 65536 in
theorem w_ripe : about1.ripe theMethod args0 below0 = true := by decide +kernel
theorem w_running : about1.status = .running := rfl
set_option maxRecDepth 65536 in
theorem w_room : about1.hasRoom e0.platform room_1 = true :=
  launch0.hasRoom_least _ room_1 (by decide +kernel) (by decide +kernel) (by decide +kernel) (by decide +kernel) (by decide +kernel) (by decide +kernel)
theorem allAtoms_all (ts : List Jvm.Cond) (a : Array Jvm.Value) (st : Jvm.State) : (allAtoms ts).before a st = ts.all (fun c => c.before a st) := by
  induction ts with
  | nil => rfl
  | cons c t ih =>
    show (Jvm.Cond.and c (allAtoms t)).before a st = _
    rw [Jvm.Cond.before_and, ih, List.all_cons]
def words1 : List Jvm.Cond := Jvm.Cond.code x code maxLocals ret :: tables_1
/-- a 'code' word, met by the world's own term for the bytes: nothing is compared byte by byte -/
theorem code_word {y : MethodName} {bytes : ByteArray} {mx : Nat} {rt : Option FieldType} {a : Array Value} {s : State} {m : MethodId} {meth : Method} {c : Code} (h1 : s.methodNamed? y = some m) (h2 : s.vm.method? m = some meth) (h3 : meth.code = some c) (h4 : c.code = bytes)
    (h5 : (c.maxLocals == mx && c.exceptionTable.isEmpty && decide (c.maxStack ≤ mostOperands) && decide (meth.sig.returnType = rt) && !meth.locks && decide (parseMethodDescriptor y.desc = some meth.sig)) = true) : (Jvm.Cond.code y bytes mx rt).before a s = true := by
  simp only [Bool.and_eq_true, beq_iff_eq, Bool.not_eq_true', decide_eq_true_eq] at h5
  obtain ⟨⟨⟨⟨⟨g1, g2⟩, g3⟩, g4⟩, g5⟩, g6⟩ := h5
  simp [Cond.before, Cond.holds, Cond.value, h1, h2, h3, h4, g1, g2, g3, g4, g5, g6]
def isCode : Jvm.Cond → Bool
  | .code _ _ _ _ => true
  | _ => false
theorem all_split {L : List Jvm.Cond} {P : Jvm.Cond → Bool} (h1 : L.all (fun c => isCode c || P c) = true) (h2 : ∀ c ∈ L.filter isCode, P c = true) : L.all P = true := by
  refine List.all_eq_true.mpr fun c hc => ?_
  have h := List.all_eq_true.mp h1 c hc
  rcases Bool.eq_false_or_eq_true (isCode c) with hi | hi
  · exact h2 c (List.mem_filter.mpr ⟨hc, hi⟩)
  · simpa [hi] using h
set_option maxRecDepth 65536 in
theorem w_c0 : (Jvm.Cond.code x code maxLocals ret).before args0 about1 = true := code_word (m := ⟨1, 2⟩) (meth := k1m2) (c := k1c2) (by decide +kernel) rfl rfl rfl (by decide +kernel)
set_option maxRecDepth 65536 in
theorem w_c1 : (Jvm.Cond.code ({ cls := "com/example/renkei/renkei/codec/SegmentEnds", name := "isIdUnit", desc := "(I)Z" } : Jvm.MethodName) prog_22_method_2_code (1 : Nat) (Option.some Jvm.ClassFile.FieldType.boolean)).before args0 about1 = true := code_word (m := ⟨2, 1⟩) (meth := k2m1) (c := k2c1) (by decide +kernel) rfl rfl rfl (by decide +kernel)
set_option maxRecDepth 65536 in
theorem w_c2 : (Jvm.Cond.code ({ cls := "com/example/renkei/renkei/codec/SegmentEndsIsIdUnitPinLaw", name := "ref", desc := "(I)Z" } : Jvm.MethodName) method_2_code (2 : Nat) (Option.some Jvm.ClassFile.FieldType.boolean)).before args0 about1 = true := code_word (m := ⟨1, 1⟩) (meth := k1m1) (c := k1c1) (by decide +kernel) rfl rfl rfl (by decide +kernel)
set_option maxRecDepth 65536 in
theorem w_c3 : (Jvm.Cond.code ({ cls := "java/lang/String", name := "charAt", desc := "(I)C" } : Jvm.MethodName) jdk_42_method_56_code (2 : Nat) (Option.some Jvm.ClassFile.FieldType.char)).before args0 about1 = true := code_word (m := ⟨8, 1⟩) (meth := k8m1) (c := k8c1) (by decide +kernel) rfl rfl rfl (by decide +kernel)
set_option maxRecDepth 65536 in
theorem w_c4 : (Jvm.Cond.code ({ cls := "java/lang/String", name := "isLatin1", desc := "()Z" } : Jvm.MethodName) jdk_42_method_154_code (1 : Nat) (Option.some Jvm.ClassFile.FieldType.boolean)).before args0 about1 = true := code_word (m := ⟨8, 2⟩) (meth := k8m2) (c := k8c2) (by decide +kernel) rfl rfl rfl (by decide +kernel)
set_option maxRecDepth 65536 in
theorem w_c5 : (Jvm.Cond.code ({ cls := "java/lang/StringLatin1", name := "charAt", desc := "([BI)C" } : Jvm.MethodName) jdk_43_method_2_code (2 : Nat) (Option.some Jvm.ClassFile.FieldType.char)).before args0 about1 = true := code_word (m := ⟨9, 1⟩) (meth := k9m1) (c := k9c1) (by decide +kernel) rfl rfl rfl (by decide +kernel)
set_option maxRecDepth 65536 in
theorem w_c6 : (Jvm.Cond.code ({ cls := "java/lang/String", name := "checkIndex", desc := "(II)V" } : Jvm.MethodName) jdk_42_method_155_code (2 : Nat) (Option.none : Option Jvm.ClassFile.FieldType)).before args0 about1 = true := code_word (m := ⟨8, 3⟩) (meth := k8m3) (c := k8c3) (by decide +kernel) rfl rfl rfl (by decide +kernel)
set_option maxRecDepth 65536 in
theorem w_c7 : (Jvm.Cond.code ({ cls := "jdk/internal/util/Preconditions", name := "checkIndex", desc := "(IILjava/util/function/BiFunction;)I" } : Jvm.MethodName) jdk_41_method_11_code (3 : Nat) (Option.some Jvm.ClassFile.FieldType.int)).before args0 about1 = true := code_word (m := ⟨10, 1⟩) (meth := k10m1) (c := k10c1) (by decide +kernel) rfl rfl rfl (by decide +kernel)
def codes1 : List Jvm.Cond := [Jvm.Cond.code x code maxLocals ret, Jvm.Cond.code ({ cls := "com/example/renkei/renkei/codec/SegmentEnds", name := "isIdUnit", desc := "(I)Z" } : Jvm.MethodName) prog_22_method_2_code (1 : Nat) (Option.some Jvm.ClassFile.FieldType.boolean), Jvm.Cond.code ({ cls := "com/example/renkei/renkei/codec/SegmentEndsIsIdUnitPinLaw", name := "ref", desc := "(I)Z" } : Jvm.MethodName) method_2_code (2 : Nat) (Option.some Jvm.ClassFile.FieldType.boolean), Jvm.Cond.code ({ cls := "java/lang/String", name := "charAt", desc := "(I)C" } : Jvm.MethodName) jdk_42_method_56_code (2 : Nat) (Option.some Jvm.ClassFile.FieldType.char), Jvm.Cond.code ({ cls := "java/lang/String", name := "isLatin1", desc := "()Z" } : Jvm.MethodName) jdk_42_method_154_code (1 : Nat) (Option.some Jvm.ClassFile.FieldType.boolean), Jvm.Cond.code ({ cls := "java/lang/StringLatin1", name := "charAt", desc := "([BI)C" } : Jvm.MethodName) jdk_43_method_2_code (2 : Nat) (Option.some Jvm.ClassFile.FieldType.char), Jvm.Cond.code ({ cls := "java/lang/String", name := "checkIndex", desc := "(II)V" } : Jvm.MethodName) jdk_42_method_155_code (2 : Nat) (Option.none : Option Jvm.ClassFile.FieldType), Jvm.Cond.code ({ cls := "jdk/internal/util/Preconditions", name := "checkIndex", desc := "(IILjava/util/function/BiFunction;)I" } : Jvm.MethodName) jdk_41_method_11_code (3 : Nat) (Option.some Jvm.ClassFile.FieldType.int)]
set_option maxRecDepth 65536 in
theorem codes_eq : words1.filter isCode = codes1 := rfl
theorem w_codes : ∀ c ∈ words1.filter isCode, c.before args0 about1 = true := by
  rw [codes_eq]
  intro c hc
  simp only [codes1, List.mem_cons, List.not_mem_nil, or_false] at hc
  rcases hc with rfl | rfl | rfl | rfl | rfl | rfl | rfl | rfl
  · exact w_c0
  · exact w_c1
  · exact w_c2
  · exact w_c3
  · exact w_c4
  · exact w_c5
  · exact w_c6
  · exact w_c7
set_option maxRecDepth 65536 in
theorem w_t1 : (words1.take 24).all (fun c => isCode c || c.before args0 about1) = true := by decide +kernel
set_option maxRecDepth 65536 in
theorem w_t2 : ((words1.drop 24).take 24).all (fun c => isCode c || c.before args0 about1) = true := by decide +kernel
set_option maxRecDepth 65536 in
theorem w_t3 : ((words1.drop 24).drop 24).all (fun c => isCode c || c.before args0 about1) = true := by decide +kernel
theorem w_tables : (allAtoms (Jvm.Cond.code x code maxLocals ret :: tables_1)).before args0 about1 = true := by
  rw [allAtoms_all]
  show words1.all (fun c => c.before args0 about1) = true
  refine all_split ?_ w_codes
  rw [← List.take_append_drop 24 words1, List.all_append, w_t1, ← List.take_append_drop 24 (words1.drop 24), List.all_append, w_t2, w_t3]
  rfl
set_option maxRecDepth 65536 in
theorem w_rest : rest_1_c.before args0 about1 = true := by decide +kernel
set_option maxRecDepth 65536 in
theorem w_case : (Jvm.Cond.and given_1 narrow_1).before args0 about1 = true := by decide +kernel
set_option maxRecDepth 65536 in
theorem w_consts : constsHeld consts_1 about1 := Jvm.Lit.constsHeldB_iff.mp (by decide +kernel)
theorem w_applies : (headSpec (Jvm.Cond.code x code maxLocals ret :: tables_1) room_1).applies x e0.platform about1 = true :=
  (Spec.applies_iff w_frames).mpr ⟨w_running, w_runnable, w_alone, w_named, w_hears, w_ripe, w_room, w_tables⟩
theorem atStart : AtStart classFile x code maxLocals ret World_1 tables_1 room_1 Calls_1 rest_1 Pre_1 launch0 p0 e0 about1 theMethod args0 below0 :=
  ⟨lists_1, trivial, launch0.admits_env _ _ _, launch0.least_env, fairChoices_fair.cas, fairChoices_fair.clock, w_frames, w_args, w_heap, w_applies, ⟨w_consts, trivial⟩, w_rest, w_case⟩
end start1
theorem witness_1 : WitnessClaimed_1 := ⟨start1.p0, start1.e0, start1.about1, start1.theMethod, start1.args0, start1.below0, start1.atStart⟩
end Jvm.Pilot.@@N@@
