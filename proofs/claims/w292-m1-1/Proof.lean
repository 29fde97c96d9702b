import JvmDerived
import JvmDerived.Pilot.@@N@@Statement
import JvmDerived.Pilot.@@N@@Code
set_option linter.unusedVariables false
set_option linter.unusedSimpArgs false
@@BLOCK:NumsL.lean.txt@@
namespace Jvm.Pilot.@@N@@
open Jvm Jvm.ClassFile Sem Op Lib Jvm.Free Jvm.Stand Jvm.LawKit Jvm.RoadKit Bundle Jvm.Pilot.@@N@@.Jvm.D
section Own
variable {p : Program} {l : Launch} {e : Env} {R : Room} {s : State} {m : MethodId} {args : Array Value} {below : List Frame} {meth : Method} {c : Code} {T : State} {locs : List Loc} {cells slots : Nat} {Q : Option Value → Heap → List Loc → Prop} {K N : Nat} {s' : State} {E : State → Outcome → State → List Loc → Nat → Nat → Prop}
/-- the run from a ends in a return of which Q holds, within the frame -/
def own_End (p : Program) (e : Env) (below : List Frame) (s : State) (Q : Option Value → Heap → List Loc → Prop) (K N : Nat) (a : State) (E : State → Outcome → State → List Loc → Nat → Nat → Prop := FrameEnd) : Prop :=
  ∃ s₂ o, Steps p.tables e below a s₂ ∧ s₂.status = .running ∧ Ended s₂ below o ∧ ∃ v L, o = .returned v ∧ Q v s₂.heap L ∧ E s o s₂ L K N
theorem own_back {a b : State} (k : ∀ t, Steps p.tables e below b t → Steps p.tables e below a t) (h : own_End p e below s Q K N b E) : own_End p e below s Q K N a E := by
  obtain ⟨s₂, o, h1, h2⟩ := h
  exact ⟨s₂, o, k _ h1, h2⟩
theorem own_via {a b : State} (k : Steps p.tables e below a b) (h : own_End p e below s Q K N b E) : own_End p e below s Q K N a E :=
  own_back (fun _ j => k.trans j) h
/-- behind a call by contract: nothing to substitute, the places written under a name of their own -/
theorem own_shutS {g : JFrame} {rest : List Value} {Q : Option Value → Heap → List Loc → Prop} {rc rs n0 : Nat} {val : Option Value} (N : Fr n0 locs) (hv : ∀ v h L, Q v h L → v = val ∧ Fr n0 L)
    (H : ∃ (v : Option Value) (vm₁ : Vm) (B : Pt), s.WarmedH vm₁ ∧ Stand p l e R s m args below meth c B.U B.locs B.cells B.slots ∧ (∃ L, Q v B.U.heap L ∧ B.locs = locs ++ L ∧ B.cells = cells + rc ∧ B.slots = slots + rs) ∧
      ∀ target, Steps p.tables e below (B.U.setTop { g with pc := g.pc + 3, stack := v.toList ++ rest }) target → Steps p.tables e below (T.setTop g) target) :
    ∃ (T' : State) (L L' : List Loc), Stand p l e R s m args below meth c T' L' (cells + rc) (slots + rs) ∧ Fr n0 L' ∧ Q val T'.heap L ∧ ∀ target, Steps p.tables e below (T'.setTop { g with pc := g.pc + 3, stack := val.toList ++ rest }) target → Steps p.tables e below (T.setTop g) target := by
  obtain ⟨v, vm₁, ⟨T', L', k', n'⟩, -, X, ⟨L, q, l1, l2, l3⟩, st⟩ := H
  subst l1 l2 l3
  obtain ⟨hv1, hv2⟩ := hv _ _ _ q
  cases hv1
  exact ⟨T', L, _, X, N.app hv2, q, st⟩
theorem own_shutV {g : JFrame} {rest : List Value} {Q : Option Value → Heap → List Loc → Prop} {rc rs n0 : Nat} {val : Option Value} {s₀ : State} (N : Fr n0 locs) (hv : ∀ v h L, Q v h L → v = val ∧ Fr n0 L)
    (H : ∃ (v : Option Value) (vm₁ : Vm) (B : Pt), s.WarmedH vm₁ ∧ Stand p l e R s m args below meth c B.U B.locs B.cells B.slots ∧ (∃ L, Q v B.U.heap L ∧ B.locs = locs ++ L ∧ B.cells = cells + rc ∧ B.slots = slots + rs) ∧
      Steps p.tables e below s₀ (B.U.setTop { g with pc := g.pc + 3, stack := v.toList ++ rest })) :
    ∃ (T' : State) (L L' : List Loc), Stand p l e R s m args below meth c T' L' (cells + rc) (slots + rs) ∧ Fr n0 L' ∧ Q val T'.heap L ∧ Steps p.tables e below s₀ (T'.setTop { g with pc := g.pc + 3, stack := val.toList ++ rest }) := by
  obtain ⟨v, vm₁, ⟨T', L', k', n'⟩, -, X, ⟨L, q, l1, l2, l3⟩, st⟩ := H
  subst l1 l2 l3
  obtain ⟨hv1, hv2⟩ := hv _ _ _ q
  cases hv1
  exact ⟨T', L, _, X, N.app hv2, q, st⟩
theorem own_gl {n0 : Nat} (X : Stand p l e R s m args below meth c T locs cells slots) (N : Fr n0 locs) : ∃ L, Stand p l e R s m args below meth c T L cells slots ∧ Fr n0 L := ⟨_, X, N⟩
theorem own_selfsel {y : MethodName} {n : Nat} (wi : (Jvm.Cond.instantiable y.cls n).before args s = true) (hp : s.PrivateAt y) (hi : (Jvm.Cond.instanceMethod y).before args s = true) (hy : y.cls ≠ "java/lang/invoke/MethodHandle" ∧ y.cls ≠ "java/lang/invoke/VarHandle") : (Jvm.Cond.selects y.cls y y).before args s = true := by
  obtain ⟨c, k, h1, h2, -, h4, -⟩ := Cond.instantiable_spec wi
  exact selects_self_of_private h1 h2 (Bool.or_eq_false_iff.mp h4).1 hp hi hy
theorem own_cast {a b : State} (q : a = b) (h : own_End p e below s Q K N b E) : own_End p e below s Q K N a E := q ▸ h
theorem own_iadd (X : Stand p l e R s' m args below meth c T locs cells slots) (hx : p.tables.exec = Jvm.exec) {pc q : Nat} {Ls : Array Slot} {rest : List Value} (hd : decode c.code pc = .ok (.iadd, 1)) {x y : Int32} (hq : pc + 1 = q) (h : own_End p e below s Q K N (T.setTop (mkF m q Ls (.int (x + y) :: rest))) E) : own_End p e below s Q K N (T.setTop (mkF m pc Ls (.int y :: .int x :: rest))) E := by
  subst hq; exact own_back (fun _ k => XS.iadd X.here hx rfl hd rfl k) h
theorem own_isub (X : Stand p l e R s' m args below meth c T locs cells slots) (hx : p.tables.exec = Jvm.exec) {pc q : Nat} {Ls : Array Slot} {rest : List Value} (hd : decode c.code pc = .ok (.isub, 1)) {x y : Int32} (hq : pc + 1 = q) (h : own_End p e below s Q K N (T.setTop (mkF m q Ls (.int (x - y) :: rest))) E) : own_End p e below s Q K N (T.setTop (mkF m pc Ls (.int y :: .int x :: rest))) E := by
  subst hq; exact own_back (fun _ k => XS.isub X.here hx rfl hd rfl k) h
theorem own_imul (X : Stand p l e R s' m args below meth c T locs cells slots) (hx : p.tables.exec = Jvm.exec) {pc q : Nat} {Ls : Array Slot} {rest : List Value} (hd : decode c.code pc = .ok (.imul, 1)) {x y : Int32} (hq : pc + 1 = q) (h : own_End p e below s Q K N (T.setTop (mkF m q Ls (.int (x * y) :: rest))) E) : own_End p e below s Q K N (T.setTop (mkF m pc Ls (.int y :: .int x :: rest))) E := by
  subst hq; exact own_back (fun _ k => XS.imul X.here hx rfl hd rfl k) h
theorem own_iand (X : Stand p l e R s' m args below meth c T locs cells slots) (hx : p.tables.exec = Jvm.exec) {pc q : Nat} {Ls : Array Slot} {rest : List Value} (hd : decode c.code pc = .ok (.iand, 1)) {x y : Int32} (hq : pc + 1 = q) (h : own_End p e below s Q K N (T.setTop (mkF m q Ls (.int (x &&& y) :: rest))) E) : own_End p e below s Q K N (T.setTop (mkF m pc Ls (.int y :: .int x :: rest))) E := by
  subst hq; exact own_back (fun _ k => XS.iand X.here hx rfl hd rfl k) h
theorem own_ior (X : Stand p l e R s' m args below meth c T locs cells slots) (hx : p.tables.exec = Jvm.exec) {pc q : Nat} {Ls : Array Slot} {rest : List Value} (hd : decode c.code pc = .ok (.ior, 1)) {x y : Int32} (hq : pc + 1 = q) (h : own_End p e below s Q K N (T.setTop (mkF m q Ls (.int (x ||| y) :: rest))) E) : own_End p e below s Q K N (T.setTop (mkF m pc Ls (.int y :: .int x :: rest))) E := by
  subst hq; exact own_back (fun _ k => XS.ior X.here hx rfl hd rfl k) h
theorem own_ixor (X : Stand p l e R s' m args below meth c T locs cells slots) (hx : p.tables.exec = Jvm.exec) {pc q : Nat} {Ls : Array Slot} {rest : List Value} (hd : decode c.code pc = .ok (.ixor, 1)) {x y : Int32} (hq : pc + 1 = q) (h : own_End p e below s Q K N (T.setTop (mkF m q Ls (.int (x ^^^ y) :: rest))) E) : own_End p e below s Q K N (T.setTop (mkF m pc Ls (.int y :: .int x :: rest))) E := by
  subst hq; exact own_back (fun _ k => XS.ixor X.here hx rfl hd rfl k) h
theorem own_ishl (X : Stand p l e R s' m args below meth c T locs cells slots) (hx : p.tables.exec = Jvm.exec) {pc q : Nat} {Ls : Array Slot} {rest : List Value} (hd : decode c.code pc = .ok (.ishl, 1)) {x y : Int32} (hq : pc + 1 = q) (h : own_End p e below s Q K N (T.setTop (mkF m q Ls (.int (x <<< (y &&& 31)) :: rest))) E) : own_End p e below s Q K N (T.setTop (mkF m pc Ls (.int y :: .int x :: rest))) E := by
  subst hq; exact own_back (fun _ k => XS.ishl X.here hx rfl hd rfl k) h
theorem own_ishr (X : Stand p l e R s' m args below meth c T locs cells slots) (hx : p.tables.exec = Jvm.exec) {pc q : Nat} {Ls : Array Slot} {rest : List Value} (hd : decode c.code pc = .ok (.ishr, 1)) {x y : Int32} (hq : pc + 1 = q) (h : own_End p e below s Q K N (T.setTop (mkF m q Ls (.int (x >>> (y &&& 31)) :: rest))) E) : own_End p e below s Q K N (T.setTop (mkF m pc Ls (.int y :: .int x :: rest))) E := by
  subst hq; exact own_back (fun _ k => XS.ishr X.here hx rfl hd rfl k) h
theorem own_iushr (X : Stand p l e R s' m args below meth c T locs cells slots) (hx : p.tables.exec = Jvm.exec) {pc q : Nat} {Ls : Array Slot} {rest : List Value} (hd : decode c.code pc = .ok (.iushr, 1)) {x y : Int32} (hq : pc + 1 = q) (h : own_End p e below s Q K N (T.setTop (mkF m q Ls (.int ((x.toUInt32 >>> (y &&& 31).toUInt32).toInt32) :: rest))) E) : own_End p e below s Q K N (T.setTop (mkF m pc Ls (.int y :: .int x :: rest))) E := by
  subst hq; exact own_back (fun _ k => XS.iushr X.here hx rfl hd rfl k) h
theorem own_ladd (X : Stand p l e R s' m args below meth c T locs cells slots) (hx : p.tables.exec = Jvm.exec) {pc q : Nat} {Ls : Array Slot} {rest : List Value} (hd : decode c.code pc = .ok (.ladd, 1)) {x y : Int64} (hq : pc + 1 = q) (h : own_End p e below s Q K N (T.setTop (mkF m q Ls (.long (x + y) :: rest))) E) : own_End p e below s Q K N (T.setTop (mkF m pc Ls (.long y :: .long x :: rest))) E := by
  subst hq; exact own_back (fun _ k => XS.ladd X.here hx rfl hd rfl k) h
theorem own_lsub (X : Stand p l e R s' m args below meth c T locs cells slots) (hx : p.tables.exec = Jvm.exec) {pc q : Nat} {Ls : Array Slot} {rest : List Value} (hd : decode c.code pc = .ok (.lsub, 1)) {x y : Int64} (hq : pc + 1 = q) (h : own_End p e below s Q K N (T.setTop (mkF m q Ls (.long (x - y) :: rest))) E) : own_End p e below s Q K N (T.setTop (mkF m pc Ls (.long y :: .long x :: rest))) E := by
  subst hq; exact own_back (fun _ k => XS.lsub X.here hx rfl hd rfl k) h
theorem own_lmul (X : Stand p l e R s' m args below meth c T locs cells slots) (hx : p.tables.exec = Jvm.exec) {pc q : Nat} {Ls : Array Slot} {rest : List Value} (hd : decode c.code pc = .ok (.lmul, 1)) {x y : Int64} (hq : pc + 1 = q) (h : own_End p e below s Q K N (T.setTop (mkF m q Ls (.long (x * y) :: rest))) E) : own_End p e below s Q K N (T.setTop (mkF m pc Ls (.long y :: .long x :: rest))) E := by
  subst hq; exact own_back (fun _ k => XS.lmul X.here hx rfl hd rfl k) h
theorem own_land (X : Stand p l e R s' m args below meth c T locs cells slots) (hx : p.tables.exec = Jvm.exec) {pc q : Nat} {Ls : Array Slot} {rest : List Value} (hd : decode c.code pc = .ok (.land, 1)) {x y : Int64} (hq : pc + 1 = q) (h : own_End p e below s Q K N (T.setTop (mkF m q Ls (.long (x &&& y) :: rest))) E) : own_End p e below s Q K N (T.setTop (mkF m pc Ls (.long y :: .long x :: rest))) E := by
  subst hq; exact own_back (fun _ k => XS.land X.here hx rfl hd rfl k) h
theorem own_lor (X : Stand p l e R s' m args below meth c T locs cells slots) (hx : p.tables.exec = Jvm.exec) {pc q : Nat} {Ls : Array Slot} {rest : List Value} (hd : decode c.code pc = .ok (.lor, 1)) {x y : Int64} (hq : pc + 1 = q) (h : own_End p e below s Q K N (T.setTop (mkF m q Ls (.long (x ||| y) :: rest))) E) : own_End p e below s Q K N (T.setTop (mkF m pc Ls (.long y :: .long x :: rest))) E := by
  subst hq; exact own_back (fun _ k => XS.lor X.here hx rfl hd rfl k) h
theorem own_lxor (X : Stand p l e R s' m args below meth c T locs cells slots) (hx : p.tables.exec = Jvm.exec) {pc q : Nat} {Ls : Array Slot} {rest : List Value} (hd : decode c.code pc = .ok (.lxor, 1)) {x y : Int64} (hq : pc + 1 = q) (h : own_End p e below s Q K N (T.setTop (mkF m q Ls (.long (x ^^^ y) :: rest))) E) : own_End p e below s Q K N (T.setTop (mkF m pc Ls (.long y :: .long x :: rest))) E := by
  subst hq; exact own_back (fun _ k => XS.lxor X.here hx rfl hd rfl k) h
theorem own_lshl (X : Stand p l e R s' m args below meth c T locs cells slots) (hx : p.tables.exec = Jvm.exec) {pc q : Nat} {Ls : Array Slot} {rest : List Value} (hd : decode c.code pc = .ok (.lshl, 1)) {x : Int64} {y : Int32} (hq : pc + 1 = q) (h : own_End p e below s Q K N (T.setTop (mkF m q Ls (.long (x <<< (y &&& 0x3f).toInt64) :: rest))) E) : own_End p e below s Q K N (T.setTop (mkF m pc Ls (.int y :: .long x :: rest))) E := by
  subst hq; exact own_back (fun _ k => XS.lshl X.here hx rfl hd rfl k) h
theorem own_lshr (X : Stand p l e R s' m args below meth c T locs cells slots) (hx : p.tables.exec = Jvm.exec) {pc q : Nat} {Ls : Array Slot} {rest : List Value} (hd : decode c.code pc = .ok (.lshr, 1)) {x : Int64} {y : Int32} (hq : pc + 1 = q) (h : own_End p e below s Q K N (T.setTop (mkF m q Ls (.long (x >>> (y &&& 0x3f).toInt64) :: rest))) E) : own_End p e below s Q K N (T.setTop (mkF m pc Ls (.int y :: .long x :: rest))) E := by
  subst hq; exact own_back (fun _ k => XS.lshr X.here hx rfl hd rfl k) h
theorem own_lushr (X : Stand p l e R s' m args below meth c T locs cells slots) (hx : p.tables.exec = Jvm.exec) {pc q : Nat} {Ls : Array Slot} {rest : List Value} (hd : decode c.code pc = .ok (.lushr, 1)) {x : Int64} {y : Int32} (hq : pc + 1 = q) (h : own_End p e below s Q K N (T.setTop (mkF m q Ls (.long ((x.toUInt64 >>> (y &&& 0x3f).toInt64.toUInt64).toInt64) :: rest))) E) : own_End p e below s Q K N (T.setTop (mkF m pc Ls (.int y :: .long x :: rest))) E := by
  subst hq; exact own_back (fun _ k => XS.lushr X.here hx rfl hd rfl k) h
theorem own_idiv (X : Stand p l e R s' m args below meth c T locs cells slots) (hx : p.tables.exec = Jvm.exec) {pc q : Nat} {Ls : Array Slot} {rest : List Value} (hd : decode c.code pc = .ok (.idiv, 1)) {x y : Int32} (hy : y ≠ 0) (hq : pc + 1 = q) (h : own_End p e below s Q K N (T.setTop (mkF m q Ls (.int (x / y) :: rest))) E) : own_End p e below s Q K N (T.setTop (mkF m pc Ls (.int y :: .int x :: rest))) E := by
  subst hq; exact own_back (fun _ k => XS.idiv X.here hx rfl hd rfl hy k) h
theorem own_irem (X : Stand p l e R s' m args below meth c T locs cells slots) (hx : p.tables.exec = Jvm.exec) {pc q : Nat} {Ls : Array Slot} {rest : List Value} (hd : decode c.code pc = .ok (.irem, 1)) {x y : Int32} (hy : y ≠ 0) (hq : pc + 1 = q) (h : own_End p e below s Q K N (T.setTop (mkF m q Ls (.int (x % y) :: rest))) E) : own_End p e below s Q K N (T.setTop (mkF m pc Ls (.int y :: .int x :: rest))) E := by
  subst hq; exact own_back (fun _ k => iremM X hx rfl hd rfl hy k) h
theorem own_ldiv (X : Stand p l e R s' m args below meth c T locs cells slots) (hx : p.tables.exec = Jvm.exec) {pc q : Nat} {Ls : Array Slot} {rest : List Value} (hd : decode c.code pc = .ok (.ldiv, 1)) {x y : Int64} (hy : y ≠ 0) (hq : pc + 1 = q) (h : own_End p e below s Q K N (T.setTop (mkF m q Ls (.long (x / y) :: rest))) E) : own_End p e below s Q K N (T.setTop (mkF m pc Ls (.long y :: .long x :: rest))) E := by
  subst hq; exact own_back (fun _ k => XS.ldiv X.here hx rfl hd rfl hy k) h
theorem own_lrem (X : Stand p l e R s' m args below meth c T locs cells slots) (hx : p.tables.exec = Jvm.exec) {pc q : Nat} {Ls : Array Slot} {rest : List Value} (hd : decode c.code pc = .ok (.lrem, 1)) {x y : Int64} (hy : y ≠ 0) (hq : pc + 1 = q) (h : own_End p e below s Q K N (T.setTop (mkF m q Ls (.long (x - (x / y) * y) :: rest))) E) : own_End p e below s Q K N (T.setTop (mkF m pc Ls (.long y :: .long x :: rest))) E := by
  subst hq; exact own_back (fun _ k => XS.lrem X.here hx rfl hd rfl hy k) h
theorem own_ineg (X : Stand p l e R s' m args below meth c T locs cells slots) (hx : p.tables.exec = Jvm.exec) {pc q : Nat} {Ls : Array Slot} {rest : List Value} (hd : decode c.code pc = .ok (.ineg, 1)) {x : Int32} (hq : pc + 1 = q) (h : own_End p e below s Q K N (T.setTop (mkF m q Ls (.int (-x) :: rest))) E) : own_End p e below s Q K N (T.setTop (mkF m pc Ls (.int x :: rest))) E := by
  subst hq; exact own_back (fun _ k => XS.ineg X.here hx rfl hd rfl k) h
theorem own_lneg (X : Stand p l e R s' m args below meth c T locs cells slots) (hx : p.tables.exec = Jvm.exec) {pc q : Nat} {Ls : Array Slot} {rest : List Value} (hd : decode c.code pc = .ok (.lneg, 1)) {x : Int64} (hq : pc + 1 = q) (h : own_End p e below s Q K N (T.setTop (mkF m q Ls (.long (-x) :: rest))) E) : own_End p e below s Q K N (T.setTop (mkF m pc Ls (.long x :: rest))) E := by
  subst hq; exact own_back (fun _ k => XS.lneg X.here hx rfl hd rfl k) h
theorem own_i2l (X : Stand p l e R s' m args below meth c T locs cells slots) (hx : p.tables.exec = Jvm.exec) {pc q : Nat} {Ls : Array Slot} {rest : List Value} (hd : decode c.code pc = .ok (.i2l, 1)) {x : Int32} (hq : pc + 1 = q) (h : own_End p e below s Q K N (T.setTop (mkF m q Ls (.long (x.toInt64) :: rest))) E) : own_End p e below s Q K N (T.setTop (mkF m pc Ls (.int x :: rest))) E := by
  subst hq; exact own_back (fun _ k => XS.i2l X.here hx rfl hd rfl k) h
theorem own_l2i (X : Stand p l e R s' m args below meth c T locs cells slots) (hx : p.tables.exec = Jvm.exec) {pc q : Nat} {Ls : Array Slot} {rest : List Value} (hd : decode c.code pc = .ok (.l2i, 1)) {x : Int64} (hq : pc + 1 = q) (h : own_End p e below s Q K N (T.setTop (mkF m q Ls (.int (x.toInt32) :: rest))) E) : own_End p e below s Q K N (T.setTop (mkF m pc Ls (.long x :: rest))) E := by
  subst hq; exact own_back (fun _ k => XS.l2i X.here hx rfl hd rfl k) h
theorem own_i2c (X : Stand p l e R s' m args below meth c T locs cells slots) (hx : p.tables.exec = Jvm.exec) {pc q : Nat} {Ls : Array Slot} {rest : List Value} (hd : decode c.code pc = .ok (.i2c, 1)) {x : Int32} (hq : pc + 1 = q) (h : own_End p e below s Q K N (T.setTop (mkF m q Ls (.int (x.toUInt32.toUInt16.toUInt32.toInt32) :: rest))) E) : own_End p e below s Q K N (T.setTop (mkF m pc Ls (.int x :: rest))) E := by
  subst hq; exact own_back (fun _ k => XS.i2c X.here hx rfl hd rfl k) h
theorem own_i2b (X : Stand p l e R s' m args below meth c T locs cells slots) (hx : p.tables.exec = Jvm.exec) {pc q : Nat} {Ls : Array Slot} {rest : List Value} (hd : decode c.code pc = .ok (.i2b, 1)) {x : Int32} (hq : pc + 1 = q) (h : own_End p e below s Q K N (T.setTop (mkF m q Ls (.int (x.toInt8.toInt32) :: rest))) E) : own_End p e below s Q K N (T.setTop (mkF m pc Ls (.int x :: rest))) E := by
  subst hq; exact own_back (fun _ k => XS.i2b X.here hx rfl hd rfl k) h
theorem own_i2s (X : Stand p l e R s' m args below meth c T locs cells slots) (hx : p.tables.exec = Jvm.exec) {pc q : Nat} {Ls : Array Slot} {rest : List Value} (hd : decode c.code pc = .ok (.i2s, 1)) {x : Int32} (hq : pc + 1 = q) (h : own_End p e below s Q K N (T.setTop (mkF m q Ls (.int (x.toInt16.toInt32) :: rest))) E) : own_End p e below s Q K N (T.setTop (mkF m pc Ls (.int x :: rest))) E := by
  subst hq; exact own_back (fun _ k => XS.i2s X.here hx rfl hd rfl k) h
theorem own_lcmp (X : Stand p l e R s' m args below meth c T locs cells slots) (hx : p.tables.exec = Jvm.exec) {pc q : Nat} {Ls : Array Slot} {rest : List Value} (hd : decode c.code pc = .ok (.lcmp, 1)) {x y : Int64} (hq : pc + 1 = q) (h : own_End p e below s Q K N (T.setTop (mkF m q Ls (.int (lcmpW x y) :: rest))) E) : own_End p e below s Q K N (T.setTop (mkF m pc Ls (.long y :: .long x :: rest))) E := by
  subst hq; exact own_back (fun _ k => XS.lcmp X.here hx rfl hd rfl k) h
theorem own_dup (X : Stand p l e R s' m args below meth c T locs cells slots) (hx : p.tables.exec = Jvm.exec) {pc q : Nat} {Ls : Array Slot} {rest : List Value} (hd : decode c.code pc = .ok (.dup, 1)) {v : Value} (hv : v.category = 1) (hq : pc + 1 = q) (h : own_End p e below s Q K N (T.setTop (mkF m q Ls (v :: v :: rest))) E) : own_End p e below s Q K N (T.setTop (mkF m pc Ls (v :: rest))) E := by
  subst hq; exact own_back (fun _ k => XS.dup X.here hx rfl hd rfl hv k) h
theorem own_dupx1 (X : Stand p l e R s' m args below meth c T locs cells slots) (hx : p.tables.exec = Jvm.exec) {pc q : Nat} {Ls : Array Slot} {rest : List Value} (hd : decode c.code pc = .ok (.dup_x1, 1)) {v w : Value} (hv : v.category = 1) (hw : w.category = 1) (hq : pc + 1 = q) (h : own_End p e below s Q K N (T.setTop (mkF m q Ls (v :: w :: v :: rest))) E) : own_End p e below s Q K N (T.setTop (mkF m pc Ls (v :: w :: rest))) E := by
  subst hq; exact own_back (fun _ k => XS.dupX1 X.here hx rfl hd rfl hv hw k) h
theorem own_pop (X : Stand p l e R s' m args below meth c T locs cells slots) (hx : p.tables.exec = Jvm.exec) {pc q : Nat} {Ls : Array Slot} {rest : List Value} (hd : decode c.code pc = .ok (.pop, 1)) {v : Value} (hv : v.category = 1) (hq : pc + 1 = q) (h : own_End p e below s Q K N (T.setTop (mkF m q Ls (rest))) E) : own_End p e below s Q K N (T.setTop (mkF m pc Ls (v :: rest))) E := by
  subst hq; exact own_back (fun _ k => XS.pop X.here hx rfl hd rfl hv k) h
theorem own_anull (X : Stand p l e R s' m args below meth c T locs cells slots) (hx : p.tables.exec = Jvm.exec) {pc q : Nat} {Ls : Array Slot} {rest : List Value} (hd : decode c.code pc = .ok (.aconst_null, 1))  (hq : pc + 1 = q) (h : own_End p e below s Q K N (T.setTop (mkF m q Ls (.null :: rest))) E) : own_End p e below s Q K N (T.setTop (mkF m pc Ls (rest))) E := by
  subst hq; exact own_back (fun _ k => XS.aconstNull X.here hx rfl hd k) h
theorem own_iload (X : Stand p l e R s' m args below meth c T locs cells slots) (hx : p.tables.exec = Jvm.exec) {pc q : Nat} {Ls : Array Slot} {rest : List Value} {k : Nat} {v : Int32} (hd : decode c.code pc = .ok (.iload k, 2)) (hl : Ls[k]? = some (.val (.int v))) (hq : pc + 2 = q) (h : own_End p e below s Q K N (T.setTop (mkF m q Ls (.int v :: rest))) E) : own_End p e below s Q K N (T.setTop (mkF m pc Ls (rest))) E := by
  subst hq; exact own_back (fun _ k => XS.iload X.here hx rfl hd hl k) h
theorem own_iloadN (X : Stand p l e R s' m args below meth c T locs cells slots) (hx : p.tables.exec = Jvm.exec) {pc q : Nat} {Ls : Array Slot} {rest : List Value} {k : Fin 4} {v : Int32} (hd : decode c.code pc = .ok (.iload_n k, 1)) (hl : Ls[k.val]? = some (.val (.int v))) (hq : pc + 1 = q) (h : own_End p e below s Q K N (T.setTop (mkF m q Ls (.int v :: rest))) E) : own_End p e below s Q K N (T.setTop (mkF m pc Ls (rest))) E := by
  subst hq; exact own_back (fun _ k => XS.iloadN X.here hx rfl hd hl k) h
theorem own_istore (X : Stand p l e R s' m args below meth c T locs cells slots) (hx : p.tables.exec = Jvm.exec) {pc q : Nat} {Ls : Array Slot} {rest : List Value} {k : Nat} {v : Int32} {l' : Array Slot} (hd : decode c.code pc = .ok (.istore k, 2)) (hl : storeLocals Ls k (.int v) = some l') (hq : pc + 2 = q) (h : own_End p e below s Q K N (T.setTop (mkF m q l' (rest))) E) : own_End p e below s Q K N (T.setTop (mkF m pc Ls (.int v :: rest))) E := by
  subst hq; exact own_back (fun _ k => XS.istore X.here hx rfl hd rfl hl k) h
theorem own_istoreN (X : Stand p l e R s' m args below meth c T locs cells slots) (hx : p.tables.exec = Jvm.exec) {pc q : Nat} {Ls : Array Slot} {rest : List Value} {k : Fin 4} {v : Int32} {l' : Array Slot} (hd : decode c.code pc = .ok (.istore_n k, 1)) (hl : storeLocals Ls k.val (.int v) = some l') (hq : pc + 1 = q) (h : own_End p e below s Q K N (T.setTop (mkF m q l' (rest))) E) : own_End p e below s Q K N (T.setTop (mkF m pc Ls (.int v :: rest))) E := by
  subst hq; exact own_back (fun _ k => XS.istoreN X.here hx rfl hd rfl hl k) h
theorem own_lload (X : Stand p l e R s' m args below meth c T locs cells slots) (hx : p.tables.exec = Jvm.exec) {pc q : Nat} {Ls : Array Slot} {rest : List Value} {k : Nat} {v : Int64} (hd : decode c.code pc = .ok (.lload k, 2)) (hl : Ls[k]? = some (.val (.long v))) (hq : pc + 2 = q) (h : own_End p e below s Q K N (T.setTop (mkF m q Ls (.long v :: rest))) E) : own_End p e below s Q K N (T.setTop (mkF m pc Ls (rest))) E := by
  subst hq; exact own_back (fun _ k => XS.lload X.here hx rfl hd hl k) h
theorem own_lloadN (X : Stand p l e R s' m args below meth c T locs cells slots) (hx : p.tables.exec = Jvm.exec) {pc q : Nat} {Ls : Array Slot} {rest : List Value} {k : Fin 4} {v : Int64} (hd : decode c.code pc = .ok (.lload_n k, 1)) (hl : Ls[k.val]? = some (.val (.long v))) (hq : pc + 1 = q) (h : own_End p e below s Q K N (T.setTop (mkF m q Ls (.long v :: rest))) E) : own_End p e below s Q K N (T.setTop (mkF m pc Ls (rest))) E := by
  subst hq; exact own_back (fun _ k => XS.lloadN X.here hx rfl hd hl k) h
theorem own_lstore (X : Stand p l e R s' m args below meth c T locs cells slots) (hx : p.tables.exec = Jvm.exec) {pc q : Nat} {Ls : Array Slot} {rest : List Value} {k : Nat} {v : Int64} {l' : Array Slot} (hd : decode c.code pc = .ok (.lstore k, 2)) (hl : storeLocals Ls k (.long v) = some l') (hq : pc + 2 = q) (h : own_End p e below s Q K N (T.setTop (mkF m q l' (rest))) E) : own_End p e below s Q K N (T.setTop (mkF m pc Ls (.long v :: rest))) E := by
  subst hq; exact own_back (fun _ k => XS.lstore X.here hx rfl hd rfl hl k) h
theorem own_lstoreN (X : Stand p l e R s' m args below meth c T locs cells slots) (hx : p.tables.exec = Jvm.exec) {pc q : Nat} {Ls : Array Slot} {rest : List Value} {k : Fin 4} {v : Int64} {l' : Array Slot} (hd : decode c.code pc = .ok (.lstore_n k, 1)) (hl : storeLocals Ls k.val (.long v) = some l') (hq : pc + 1 = q) (h : own_End p e below s Q K N (T.setTop (mkF m q l' (rest))) E) : own_End p e below s Q K N (T.setTop (mkF m pc Ls (.long v :: rest))) E := by
  subst hq; exact own_back (fun _ k => XS.lstoreN X.here hx rfl hd rfl hl k) h
theorem own_aload (X : Stand p l e R s' m args below meth c T locs cells slots) (hx : p.tables.exec = Jvm.exec) {pc q : Nat} {Ls : Array Slot} {rest : List Value} {k : Nat} {v : Value} (hd : decode c.code pc = .ok (.aload k, 2)) (hl : Ls[k]? = some (.val v)) (hv : v.isRef = true) (hq : pc + 2 = q) (h : own_End p e below s Q K N (T.setTop (mkF m q Ls (v :: rest))) E) : own_End p e below s Q K N (T.setTop (mkF m pc Ls (rest))) E := by
  subst hq; exact own_back (fun _ k => XS.aload X.here hx rfl hd hl hv k) h
theorem own_aloadN (X : Stand p l e R s' m args below meth c T locs cells slots) (hx : p.tables.exec = Jvm.exec) {pc q : Nat} {Ls : Array Slot} {rest : List Value} {k : Fin 4} {v : Value} (hd : decode c.code pc = .ok (.aload_n k, 1)) (hl : Ls[k.val]? = some (.val v)) (hv : v.isRef = true) (hq : pc + 1 = q) (h : own_End p e below s Q K N (T.setTop (mkF m q Ls (v :: rest))) E) : own_End p e below s Q K N (T.setTop (mkF m pc Ls (rest))) E := by
  subst hq; exact own_back (fun _ k => XS.aloadN X.here hx rfl hd hl hv k) h
theorem own_astore (X : Stand p l e R s' m args below meth c T locs cells slots) (hx : p.tables.exec = Jvm.exec) {pc q : Nat} {Ls : Array Slot} {rest : List Value} {k : Nat} {v : Value} {l' : Array Slot} (hd : decode c.code pc = .ok (.astore k, 2)) (hv : v.isRef = true) (hl : storeLocals Ls k v = some l') (hq : pc + 2 = q) (h : own_End p e below s Q K N (T.setTop (mkF m q l' (rest))) E) : own_End p e below s Q K N (T.setTop (mkF m pc Ls (v :: rest))) E := by
  subst hq; exact own_back (fun _ k => XS.astore X.here hx rfl hd rfl hv hl k) h
theorem own_astoreN (X : Stand p l e R s' m args below meth c T locs cells slots) (hx : p.tables.exec = Jvm.exec) {pc q : Nat} {Ls : Array Slot} {rest : List Value} {k : Fin 4} {v : Value} {l' : Array Slot} (hd : decode c.code pc = .ok (.astore_n k, 1)) (hv : v.isRef = true) (hl : storeLocals Ls k.val v = some l') (hq : pc + 1 = q) (h : own_End p e below s Q K N (T.setTop (mkF m q l' (rest))) E) : own_End p e below s Q K N (T.setTop (mkF m pc Ls (v :: rest))) E := by
  subst hq; exact own_back (fun _ k => XS.astoreN X.here hx rfl hd rfl hv hl k) h
theorem own_iinc (X : Stand p l e R s' m args below meth c T locs cells slots) (hx : p.tables.exec = Jvm.exec) {pc q : Nat} {Ls : Array Slot} {rest : List Value} {k : Nat} {cst : Int} {x z : Int32} {l' : Array Slot} (hd : decode c.code pc = .ok (.iinc k cst, 3)) (hl : Ls[k]? = some (.val (.int x))) (hz : Int32.ofInt cst = z) (hl' : storeLocals Ls k (.int (x + z)) = some l') (hq : pc + 3 = q) (h : own_End p e below s Q K N (T.setTop (mkF m q l' (rest))) E) : own_End p e below s Q K N (T.setTop (mkF m pc Ls (rest))) E := by
  subst hq hz; exact own_back (fun _ k => XS.iinc X.here hx rfl hd hl hl' k) h
theorem own_iconst (X : Stand p l e R s' m args below meth c T locs cells slots) (hx : p.tables.exec = Jvm.exec) {pc q : Nat} {Ls : Array Slot} {rest : List Value} {i : Int} {z : Int32} (hd : decode c.code pc = .ok (.iconst i, 1)) (hz : Int32.ofInt i = z) (hq : pc + 1 = q) (h : own_End p e below s Q K N (T.setTop (mkF m q Ls (.int z :: rest))) E) : own_End p e below s Q K N (T.setTop (mkF m pc Ls (rest))) E := by
  subst hq hz; exact own_back (fun _ k => XS.iconst X.here hx rfl hd k) h
theorem own_bipush (X : Stand p l e R s' m args below meth c T locs cells slots) (hx : p.tables.exec = Jvm.exec) {pc q : Nat} {Ls : Array Slot} {rest : List Value} {i : Int} {z : Int32} (hd : decode c.code pc = .ok (.bipush i, 2)) (hz : (Int8.ofInt i).toInt32 = z) (hq : pc + 2 = q) (h : own_End p e below s Q K N (T.setTop (mkF m q Ls (.int z :: rest))) E) : own_End p e below s Q K N (T.setTop (mkF m pc Ls (rest))) E := by
  subst hq hz; exact own_back (fun _ k => XS.bipush X.here hx rfl hd k) h
theorem own_sipush (X : Stand p l e R s' m args below meth c T locs cells slots) (hx : p.tables.exec = Jvm.exec) {pc q : Nat} {Ls : Array Slot} {rest : List Value} {i : Int} {z : Int32} (hd : decode c.code pc = .ok (.sipush i, 3)) (hz : (Int16.ofInt i).toInt32 = z) (hq : pc + 3 = q) (h : own_End p e below s Q K N (T.setTop (mkF m q Ls (.int z :: rest))) E) : own_End p e below s Q K N (T.setTop (mkF m pc Ls (rest))) E := by
  subst hq hz; exact own_back (fun _ k => XS.sipush X.here hx rfl hd k) h
theorem own_lconst (X : Stand p l e R s' m args below meth c T locs cells slots) (hx : p.tables.exec = Jvm.exec) {pc q : Nat} {Ls : Array Slot} {rest : List Value} {i : Fin 2} {z : Int64} (hd : decode c.code pc = .ok (.lconst i, 1)) (hz : Int64.ofNat i = z) (hq : pc + 1 = q) (h : own_End p e below s Q K N (T.setTop (mkF m q Ls (.long z :: rest))) E) : own_End p e below s Q K N (T.setTop (mkF m pc Ls (rest))) E := by
  subst hq hz; exact own_back (fun _ k => XS.lconst X.here hx rfl hd k) h
theorem own_goto (X : Stand p l e R s' m args below meth c T locs cells slots) (hx : p.tables.exec = Jvm.exec) {pc q : Nat} {Ls : Array Slot} {rest : List Value} {o : Int} (hd : decode c.code pc = .ok (.goto o, 3)) (ho : 0 ≤ (pc : Int) + o) (hp : ((pc : Int) + o).toNat = q) (h : own_End p e below s Q K N (T.setTop (mkF m q Ls (rest))) E) : own_End p e below s Q K N (T.setTop (mkF m pc Ls (rest))) E := by
  exact own_back (fun _ k => XS.goto X.here hx rfl (pc0 := pc) (pc' := q) rfl hd ho hp k) h
theorem own_ifY (X : Stand p l e R s' m args below meth c T locs cells slots) (hx : p.tables.exec = Jvm.exec) {pc q : Nat} {Ls : Array Slot} {rest : List Value} {cd : ClassFile.Cond} {x : Int32} {o : Int} (hd : decode c.code pc = .ok (.ifCond cd o, 3)) (hc : if_icmp.holds cd x 0 = true) (ho : 0 ≤ (pc : Int) + o) (hp : ((pc : Int) + o).toNat = q) (h : own_End p e below s Q K N (T.setTop (mkF m q Ls (rest))) E) : own_End p e below s Q K N (T.setTop (mkF m pc Ls (.int x :: rest))) E := by
  exact own_back (fun _ k => XS.ifYes X.here hx rfl (pc0 := pc) (pc' := q) rfl hd rfl ((if0 _ _).trans hc) ho hp k) h
theorem own_ifN (X : Stand p l e R s' m args below meth c T locs cells slots) (hx : p.tables.exec = Jvm.exec) {pc q : Nat} {Ls : Array Slot} {rest : List Value} {cd : ClassFile.Cond} {x : Int32} {o : Int} (hd : decode c.code pc = .ok (.ifCond cd o, 3)) (hc : if_icmp.holds cd x 0 = false) (hq : pc + 3 = q) (h : own_End p e below s Q K N (T.setTop (mkF m q Ls (rest))) E) : own_End p e below s Q K N (T.setTop (mkF m pc Ls (.int x :: rest))) E := by
  subst hq; exact own_back (fun _ k => XS.ifNo X.here hx rfl hd rfl ((if0 _ _).trans hc) k) h
theorem own_icY (X : Stand p l e R s' m args below meth c T locs cells slots) (hx : p.tables.exec = Jvm.exec) {pc q : Nat} {Ls : Array Slot} {rest : List Value} {cd : ClassFile.Cond} {x y : Int32} {o : Int} (hd : decode c.code pc = .ok (.if_icmp cd o, 3)) (hc : if_icmp.holds cd x y = true) (ho : 0 ≤ (pc : Int) + o) (hp : ((pc : Int) + o).toNat = q) (h : own_End p e below s Q K N (T.setTop (mkF m q Ls (rest))) E) : own_End p e below s Q K N (T.setTop (mkF m pc Ls (.int y :: .int x :: rest))) E := by
  exact own_back (fun _ k => XS.icmpYes X.here hx rfl (pc0 := pc) (pc' := q) rfl hd rfl hc ho hp k) h
theorem own_icN (X : Stand p l e R s' m args below meth c T locs cells slots) (hx : p.tables.exec = Jvm.exec) {pc q : Nat} {Ls : Array Slot} {rest : List Value} {cd : ClassFile.Cond} {x y : Int32} {o : Int} (hd : decode c.code pc = .ok (.if_icmp cd o, 3)) (hc : if_icmp.holds cd x y = false) (hq : pc + 3 = q) (h : own_End p e below s Q K N (T.setTop (mkF m q Ls (rest))) E) : own_End p e below s Q K N (T.setTop (mkF m pc Ls (.int y :: .int x :: rest))) E := by
  subst hq; exact own_back (fun _ k => XS.icmpNo X.here hx rfl hd rfl hc k) h
theorem own_lcY (X : Stand p l e R s' m args below meth c T locs cells slots) (hx : p.tables.exec = Jvm.exec) {pc r q : Nat} {Ls : Array Slot} {rest : List Value} {cd : ClassFile.Cond} {x y : Int64} {o : Int} (hd : decode c.code pc = .ok (.lcmp, 1)) (hr : pc + 1 = r) (hd' : decode c.code r = .ok (.ifCond cd o, 3)) (hc : if_icmp.holds cd (lcmpW x y) 0 = true) (ho : 0 ≤ (r : Int) + o) (hp : ((r : Int) + o).toNat = q) (h : own_End p e below s Q K N (T.setTop (mkF m q Ls (rest))) E) : own_End p e below s Q K N (T.setTop (mkF m pc Ls (.long y :: .long x :: rest))) E := own_lcmp X hx hd hr (own_ifY X hx hd' hc ho hp h)
theorem own_lcN (X : Stand p l e R s' m args below meth c T locs cells slots) (hx : p.tables.exec = Jvm.exec) {pc r q : Nat} {Ls : Array Slot} {rest : List Value} {cd : ClassFile.Cond} {x y : Int64} {o : Int} (hd : decode c.code pc = .ok (.lcmp, 1)) (hr : pc + 1 = r) (hd' : decode c.code r = .ok (.ifCond cd o, 3)) (hc : if_icmp.holds cd (lcmpW x y) 0 = false) (hq : r + 3 = q) (h : own_End p e below s Q K N (T.setTop (mkF m q Ls (rest))) E) : own_End p e below s Q K N (T.setTop (mkF m pc Ls (.long y :: .long x :: rest))) E := own_lcmp X hx hd hr (own_ifN X hx hd' hc hq h)
theorem own_tlt {x y : Int64} (h : x < y) : if_icmp.holds .lt (lcmpW x y) 0 = true ∧ if_icmp.holds .ge (lcmpW x y) 0 = false ∧ if_icmp.holds .gt (lcmpW y x) 0 = true ∧ if_icmp.holds .le (lcmpW y x) 0 = false :=
  ⟨(tlt ((lw_lt x y).mpr h)).1, (tlt ((lw_lt x y).mpr h)).2.1, (tlt ((lw_gt y x).mpr h)).2.2.1, (tlt ((lw_gt y x).mpr h)).2.2.2⟩
theorem own_flt {x y : Int64} (h : ¬ x < y) : if_icmp.holds .lt (lcmpW x y) 0 = false ∧ if_icmp.holds .ge (lcmpW x y) 0 = true ∧ if_icmp.holds .gt (lcmpW y x) 0 = false ∧ if_icmp.holds .le (lcmpW y x) 0 = true :=
  ⟨(flt (fun q => h ((lw_lt x y).mp q))).1, (flt (fun q => h ((lw_lt x y).mp q))).2.1, (flt (fun q => h ((lw_gt y x).mp q))).2.2.1, (flt (fun q => h ((lw_gt y x).mp q))).2.2.2⟩
theorem own_teq {x y : Int64} (h : x = y) : if_icmp.holds .eq (lcmpW x y) 0 = true ∧ if_icmp.holds .ne (lcmpW x y) 0 = false := teq ((lw_eq x y).mpr h)
theorem own_feq {x y : Int64} (h : ¬ x = y) : if_icmp.holds .eq (lcmpW x y) 0 = false ∧ if_icmp.holds .ne (lcmpW x y) 0 = true := feq (fun q => h ((lw_eq x y).mp q))
theorem own_retV (X : Stand p l e R s m args below meth c T locs cells slots) (hx : p.tables.exec = Jvm.exec) {pc : Nat} {Ls : Array Slot}  (hret : meth.sig.returnType = none) (hlk : meth.locks = false) (hc : cells ≤ K) (hs : slots ≤ N) (hd : decode c.code pc = .ok (.return_, 1)) (hQ : Q none T.heap locs) : own_End p e below s Q K N (T.setTop (mkF m pc Ls [])) := by
  obtain ⟨fs, hr, hrun, hended, hW, hsame⟩ := X.leave (v := none) (fun _ => rfl) hlk
  refine ⟨_, _, ?_, hrun, hended, _, _, rfl, hQ, ⟨_, rfl⟩, hW, hsame.mono hc hs⟩
  exact X.returnOut hx hret hd hr
theorem own_retI (X : Stand p l e R s m args below meth c T locs cells slots) (hx : p.tables.exec = Jvm.exec) {pc : Nat} {Ls : Array Slot} {rest : List Value} {z : Int32} (hret : meth.sig.returnType = some .int) (hlk : meth.locks = false) (hc : cells ≤ K) (hs : slots ≤ N) (hd : decode c.code pc = .ok (.ireturn, 1)) (hQ : Q (some (.int z)) T.heap locs) : own_End p e below s Q K N (T.setTop (mkF m pc Ls (.int z :: rest))) := by
  obtain ⟨fs, hr, hrun, hended, hW, hsame⟩ := X.leave (v := (some (.int z))) (fun h => by rw [hret] at h; cases h) hlk
  refine ⟨_, _, ?_, hrun, hended, _, _, rfl, hQ, ⟨_, rfl⟩, hW, hsame.mono hc hs⟩
  have hm' : T.vm.method? m = some meth := X.method'
  have hn : narrow .int (.int z) = .int z := rfl
  show Steps p.tables e below (T.setTop { method := m, pc := pc, locals := Ls, stack := _ :: rest, locked := none }) _
  jvm_step X.here [X.here.top, hx, hd, hm', hret, hn]
  first | (intro acts; rw [hr _ acts rfl rfl rfl]) | rw [hr _ _ rfl rfl rfl]
  exact Steps.refl _
theorem own_retJ (X : Stand p l e R s m args below meth c T locs cells slots) (hx : p.tables.exec = Jvm.exec) {pc : Nat} {Ls : Array Slot} {rest : List Value} {z : Int64} (hret : meth.sig.returnType = some .long) (hlk : meth.locks = false) (hc : cells ≤ K) (hs : slots ≤ N) (hd : decode c.code pc = .ok (.lreturn, 1)) (hQ : Q (some (.long z)) T.heap locs) : own_End p e below s Q K N (T.setTop (mkF m pc Ls (.long z :: rest))) := by
  obtain ⟨fs, hr, hrun, hended, hW, hsame⟩ := X.leave (v := (some (.long z))) (fun h => by rw [hret] at h; cases h) hlk
  refine ⟨_, _, ?_, hrun, hended, _, _, rfl, hQ, ⟨_, rfl⟩, hW, hsame.mono hc hs⟩
  have hm' : T.vm.method? m = some meth := X.method'
  have hn : narrow .long (.long z) = .long z := rfl
  show Steps p.tables e below (T.setTop { method := m, pc := pc, locals := Ls, stack := _ :: rest, locked := none }) _
  jvm_step X.here [X.here.top, hx, hd, hm', hret, hn]
  first | (intro acts; rw [hr _ acts rfl rfl rfl]) | rw [hr _ _ rfl rfl rfl]
  exact Steps.refl _
theorem own_retN (X : Stand p l e R s m args below meth c T locs cells slots) (hx : p.tables.exec = Jvm.exec) {pc : Nat} {Ls : Array Slot} {rest : List Value} {z : Int32} {t : FieldType} (ht : t = .boolean ∨ t = .byte ∨ t = .char ∨ t = .short) (hret : meth.sig.returnType = some t) (hlk : meth.locks = false) (hc : cells ≤ K) (hs : slots ≤ N) (hd : decode c.code pc = .ok (.ireturn, 1)) (hQ : Q (some (.int (nar t z))) T.heap locs) : own_End p e below s Q K N (T.setTop (mkF m pc Ls (.int z :: rest))) := by
  obtain ⟨fs, hr, hrun, hended, hW, hsame⟩ := X.leave (v := (some (.int (nar t z)))) (fun h => by rw [hret] at h; cases h) hlk
  refine ⟨_, _, ?_, hrun, hended, _, _, rfl, hQ, ⟨_, rfl⟩, hW, hsame.mono hc hs⟩
  exact retN X hx hret ht hd hr
theorem own_b (P : Prop) [Decidable P] : nar .boolean (if P then (1 : Int32) else 0) = if P then (1 : Int32) else 0 := by
  split <;> rfl
end Own
section OwnA
variable {Z : State} {h h' : Heap} {a b : Addr} {ty : FieldType} {n : Int32} {f g : Nat → Int32}
/-- an array of n places; place j holds f j -/
def own_A (Z : State) (h : Heap) (a : Addr) (ty : FieldType) (n : Int32) (f : Nat → Int32) : Prop := ∃ c : Cell, Arr Z h a c ty ∧ c.slots.size = n.toNatClampNeg ∧ ¬ n < 0 ∧ ∀ j, j < c.slots.size → c.slots[j]? = some (.int (f j))
theorem own_A.lt (F : own_A Z h a ty n f) : a < h.size := by obtain ⟨c, A, -⟩ := F; exact A.lt
theorem own_A.ext (F : own_A Z h a ty n f) (E : Ext h h') : own_A Z h' a ty n f := by obtain ⟨c, A, r⟩ := F; exact ⟨c, A.ext E, r⟩
theorem own_A.other {sl : Nat} {v : Value} (F : own_A Z h b ty n f) (W : Wr h h' a sl v) (q : b ≠ a) : own_A Z h' b ty n f := by obtain ⟨c, A, r⟩ := F; exact ⟨c, A.other W q, r⟩
theorem own_A.keep {ws : List Addr} (F : own_A Z h a ty n f) (K : Keep h h' ws) (q : a ∉ ws) : own_A Z h' a ty n f := by obtain ⟨c, A, r⟩ := F; exact ⟨c, ⟨K.2.1 a c A.1 q, A.2⟩, r⟩
theorem own_A.congr (F : own_A Z h a ty n f) (q : ∀ j, j < n.toNatClampNeg → f j = g j) : own_A Z h a ty n g := by
  obtain ⟨c, A, S, N, H⟩ := F
  exact ⟨c, A, S, N, fun j hj => by rw [H j hj, q j (S ▸ hj)]⟩
theorem own_A.new {k : ClassId} (A : Arr Z h a (newA k ty n) ty) (q : ¬ n < 0) (hd : defaultValue ty = .int 0) : own_A Z h a ty n (fun _ => 0) :=
  ⟨_, A, sz_new _ _ _, q, fun j hj => by
    rw [sz_new] at hj
    simp [newA, hd, hj]⟩
theorem own_A.set {c : Cell} {j v : Int32} (A : Arr Z h a c ty) (S : c.slots.size = n.toNatClampNeg) (N : ¬ n < 0) (H : ∀ i, i < c.slots.size → c.slots[i]? = some (.int (f i))) (hin : ¬ (j < 0 ∨ c.slots.size ≤ j.toNatClampNeg)) (W : Wr h h' a j.toNatClampNeg (.int v)) : own_A Z h' a ty n (fun i => if i = j.toNatClampNeg then v else f i) := by
  have hj : j.toNatClampNeg < c.slots.size := Nat.lt_of_not_le fun y => hin (Or.inr y)
  refine ⟨c.setSlot j.toNatClampNeg (.int v), A.same W, ?_, N, fun i hi => ?_⟩
  · rw [← S]; simp [Cell.setSlot]
  · have hi' : i < c.slots.size := by simpa [Cell.setSlot] using hi
    by_cases e : i = j.toNatClampNeg
    · subst e; simp [Cell.setSlot, hj]
    · simp only [if_neg e]
      rw [← H i hi']
      exact Array.getElem?_setIfInBounds_ne (Ne.symm e)
end OwnA
theorem own_clamp (k : Nat) (h : k < 2147483648) : (Int32.ofNat k).toNatClampNeg = k := by
  rw [← Int32.toNat_toInt, Int32.toInt_ofNat_of_lt (by omega)]; omega
theorem own_nneg (k : Nat) (h : k < 2147483648) : ¬ Int32.ofNat k < 0 := by
  rw [Int32.lt_iff_toInt_lt, Int32.toInt_ofNat_of_lt (by omega)]
  have : (0 : Int32).toInt = 0 := by decide
  omega
theorem own_add1 (k : Nat) : Int32.ofNat k + (1 : Int32) = Int32.ofNat (k + 1) := (Int32.ofNat_add k 1).symm
theorem own_ltN (a b : Nat) (ha : a < 2147483648) (hb : b < 2147483648) : (Int32.ofNat a < Int32.ofNat b) ↔ a < b := by
  rw [Int32.lt_iff_toInt_lt, Int32.toInt_ofNat_of_lt (by omega), Int32.toInt_ofNat_of_lt (by omega)]; omega
theorem own_nd {P : Prop} [Decidable P] (h : (!(decide P)) = true) : ¬ P := by simpa using h
/-- the bits of the mask M, the tree and the count that they make -/
def own_bt (M j : Nat) : Int32 := if M.testBit j then 1 else 0
def own_ct (M a : Nat) : Nat → Nat
  | 0 => 0
  | k + 1 => (if M.testBit (a + k) then 1 else 0) + own_ct M a k
def own_lo : Nat → Nat
  | 1 => 1 | 2 => 2 | 3 => 1 | 4 => 4 | 5 => 1 | 6 => 2 | 7 => 1 | 8 => 8 | _ => 0
def own_ft (M i : Nat) : Int32 := Int32.ofNat (own_ct M (i - own_lo i) (own_lo i))
def own_fc (M : Nat) : Int32 := Int32.ofNat (own_ct M 0 8)
def own_fl (v : Bool) : Int32 := if v then 1 else 0
def own_dl (v : Bool) : Int32 := if v then 1 else -1
def own_sM (M x : Nat) (v : Bool) : Nat := if v then M ||| (1 <<< x) else M &&& (255 ^^^ (1 <<< x))
theorem own_bt0 (j : Nat) : own_bt 0 j = 0 := by simp [own_bt]
theorem own_ct0 (a : Nat) : ∀ k, own_ct 0 a k = 0
  | 0 => rfl
  | k + 1 => by rw [own_ct, own_ct0 a k]; simp
theorem own_ft0 (i : Nat) : own_ft 0 i = 0 := by rw [own_ft, own_ct0]; rfl
theorem own_same : ∀ M : Fin 256, ∀ x : Fin 8, ∀ v : Bool, own_bt M x = own_fl v → own_sM M x v = M := by decide +kernel
theorem own_sMlt : ∀ N : Fin 9, ∀ M : Fin 256, M.val < 2 ^ N.val → ∀ x : Fin 8, x.val < N.val → ∀ v : Bool, own_sM M x v < 2 ^ N.val := by decide +kernel
theorem own_mem : ∀ M : Fin 256, ∀ x : Fin 8, ∀ v : Bool, ∀ j : Fin 8, (if j.val = x.val then own_fl v &&& 1 else own_bt M j) = own_bt (own_sM M x v) j := by decide +kernel
theorem own_cnt : ∀ M : Fin 256, ∀ x : Fin 8, ∀ v : Bool, ¬ own_bt M x = own_fl v → own_fc M + own_dl v = own_fc (own_sM M x v) := by decide +kernel
theorem own_tre : ∀ M : Fin 256, ∀ x : Fin 8, ∀ v : Bool, ¬ own_bt M x = own_fl v → ∀ i : Fin 9, (if i.val - own_lo i ≤ x.val ∧ x.val < i.val then own_ft M i + own_dl v else own_ft M i) = own_ft (own_sM M x v) i := by decide +kernel
/-- the loop of set -/
def own_upd (n1 d : Int32) : Nat → Int32 → (Nat → Int32) → Nat → Int32
  | 0, _, f => f
  | k + 1, i, f => if i < n1 then own_upd n1 d k (i + (i &&& (-i))) (fun j => if j = i.toNatClampNeg then (f i.toNatClampNeg + d) else f j) else f
def own_ends (n1 : Int32) : Nat → Int32 → Bool
  | 0, _ => false
  | k + 1, i => !(decide (i < 0)) && (if i < n1 then own_ends n1 k (i + (i &&& (-i))) else true)
def own_pth (n1 : Int32) : Nat → Int32 → List Nat
  | 0, _ => []
  | k + 1, i => if i < n1 then i.toNatClampNeg :: own_pth n1 k (i + (i &&& (-i))) else []
theorem own_updP (n1 d : Int32) : ∀ (k : Nat) (i : Int32) (f : Nat → Int32) (j : Nat), (own_pth n1 k i).Nodup → own_upd n1 d k i f j = if j ∈ own_pth n1 k i then f j + d else f j
  | 0, _, f, j, _ => by simp [own_upd, own_pth]
  | k + 1, i, f, j, nd => by
    rw [own_upd]; rw [own_pth] at nd ⊢
    by_cases c : i < n1
    · rw [if_pos c] at nd ⊢
      rw [if_pos c, own_updP n1 d k _ _ j (List.nodup_cons.mp nd).2]
      by_cases e : j = i.toNatClampNeg
      · have : ¬ j ∈ own_pth n1 k (i + (i &&& (-i))) := e ▸ (List.nodup_cons.mp nd).1
        rw [if_neg this, if_pos e, if_pos (by rw [e]; exact List.mem_cons_self ..), e]
      · by_cases q : j ∈ own_pth n1 k (i + (i &&& (-i)))
        · rw [if_pos q, if_neg e, if_pos (List.mem_cons_of_mem _ q)]
        · rw [if_neg q, if_neg e, if_neg (fun z => (List.mem_cons.mp z).elim e q)]
    · rw [if_neg c] at nd ⊢; rw [if_neg c]; simp
theorem own_paths : ∀ N : Fin 9, 1 ≤ N.val → ∀ x : Fin 8, x.val < N.val → own_ends (Int32.ofNat (N.val + 1)) 8 (Int32.ofNat (x.val + 1)) = true ∧ (own_pth (Int32.ofNat (N.val + 1)) 8 (Int32.ofNat (x.val + 1))).Nodup ∧ ∀ i : Fin 9, i.val < N.val + 1 → (i.val ∈ own_pth (Int32.ofNat (N.val + 1)) 8 (Int32.ofNat (x.val + 1)) ↔ (i.val - own_lo i ≤ x.val ∧ x.val < i.val)) := by decide +kernel
theorem own_p8 {N M : Nat} (hN : 1 ≤ N ∧ N ≤ 8) (hM : M < 2 ^ N) : M < 256 := Nat.lt_of_lt_of_le hM (Nat.pow_le_pow_right (by decide) hN.2 : 2 ^ N ≤ 2 ^ 8)
theorem own_updT {N M x : Nat} {v : Bool} (hN : 1 ≤ N ∧ N ≤ 8) (hM : M < 2 ^ N) (hx : x < N) (hne : ¬ own_bt M x = own_fl v) (i : Nat) (hi : i < N + 1) : own_upd (Int32.ofNat (N + 1)) (own_dl v) 8 (Int32.ofNat (x + 1)) (own_ft M) i = own_ft (own_sM M x v) i := by
  obtain ⟨-, nd, pa⟩ := own_paths ⟨N, by omega⟩ hN.1 ⟨x, by omega⟩ hx
  rw [own_updP _ _ _ _ _ _ nd, ← own_tre ⟨M, own_p8 hN hM⟩ ⟨x, by omega⟩ v hne ⟨i, by omega⟩]
  have q := pa ⟨i, by omega⟩ hi
  by_cases c : i ∈ own_pth (Int32.ofNat (N + 1)) 8 (Int32.ofNat (x + 1))
  · rw [if_pos c, if_pos (q.mp c)]
  · rw [if_neg c, if_neg (fun z => c (q.mpr z))]
/-- the loop of countBelow -/
def own_sum (f : Nat → Int32) : Nat → Int32 → Int32 → Int32
  | 0, _, b => b
  | k + 1, i, b => if 0 < i then own_sum f k (i - (i &&& (-i))) (b + f i.toNatClampNeg) else b
def own_endd (n1 : Int32) : Nat → Int32 → Bool
  | 0, _ => false
  | k + 1, i => if 0 < i then decide (i < n1) && own_endd n1 k (i - (i &&& (-i))) else true
/-- the loop of select -/
def own_sel (f : Nat → Int32) (n1 : Int32) : Nat → Int32 → Int32 → Int32 → Int32
  | 0, pos, _, _ => pos
  | k + 1, pos, left, st => if 0 < st then (if pos + st < n1 then (if left < f (pos + st).toNatClampNeg then own_sel f n1 k pos left (st >>> ((1 : Int32) &&& 31)) else own_sel f n1 k (pos + st) (left - f (pos + st).toNatClampNeg) (st >>> ((1 : Int32) &&& 31))) else own_sel f n1 k pos left (st >>> ((1 : Int32) &&& 31))) else pos
def own_selk (f : Nat → Int32) (n1 : Int32) : Nat → Int32 → Int32 → Int32 → Bool
  | 0, _, _, _ => false
  | k + 1, pos, left, st => if 0 < st then (if pos + st < n1 then !(decide (pos + st < 0)) && (if left < f (pos + st).toNatClampNeg then own_selk f n1 k pos left (st >>> ((1 : Int32) &&& 31)) else own_selk f n1 k (pos + st) (left - f (pos + st).toNatClampNeg) (st >>> ((1 : Int32) &&& 31))) else own_selk f n1 k pos left (st >>> ((1 : Int32) &&& 31))) else true
theorem own_d4_0 : decode method_3_code 0 = .ok (.iload_n 2, 1) := by decide +kernel
theorem own_d4_1 : decode method_3_code 1 = .ok (.ifCond .eq 11, 3) := by decide +kernel
theorem own_d4_12 : decode method_3_code 12 = .ok (.iload_n 0, 1) := by decide +kernel
theorem own_d4_13 : decode method_3_code 13 = .ok (.iconst 1, 1) := by decide +kernel
theorem own_d4_14 : decode method_3_code 14 = .ok (.iload_n 1, 1) := by decide +kernel
theorem own_d4_15 : decode method_3_code 15 = .ok (.ishl, 1) := by decide +kernel
theorem own_d4_16 : decode method_3_code 16 = .ok (.iconst (-1), 1) := by decide +kernel
theorem own_d4_17 : decode method_3_code 17 = .ok (.ixor, 1) := by decide +kernel
theorem own_d4_18 : decode method_3_code 18 = .ok (.iand, 1) := by decide +kernel
theorem own_d4_19 : decode method_3_code 19 = .ok (.ireturn, 1) := by decide +kernel
theorem own_d4_4 : decode method_3_code 4 = .ok (.iload_n 0, 1) := by decide +kernel
theorem own_d4_5 : decode method_3_code 5 = .ok (.iconst 1, 1) := by decide +kernel
theorem own_d4_6 : decode method_3_code 6 = .ok (.iload_n 1, 1) := by decide +kernel
theorem own_d4_7 : decode method_3_code 7 = .ok (.ishl, 1) := by decide +kernel
theorem own_d4_8 : decode method_3_code 8 = .ok (.ior, 1) := by decide +kernel
theorem own_d4_9 : decode method_3_code 9 = .ok (.goto 10, 3) := by decide +kernel
def own_F4 (p0 : Int32) (p1 : Int32) (p2 : Int32) : Int32 := (if p2 = (0 : Int32) then (p0 &&& (((1 : Int32) <<< (p1 &&& 31)) ^^^ (-1 : Int32))) else (p0 ||| ((1 : Int32) <<< (p1 &&& 31))))
def own_Q4 (Z : State) (p0 : Int32) (p1 : Int32) (p2 : Int32) (h0 : Heap) (n0 : Nat) (v : Option Value) (h : Heap) (L : List Loc) : Prop := v = some (.int (own_F4 p0 p1 p2)) ∧ Fr n0 L ∧ h = h0
theorem own_pn_rm4 : plainName "com/example/hardy_election/hardyelection/EnabledSetSetPinLaw" = true := by first | (simp [plainName, overriddenIn]; done) | decide +kernel
theorem own_ef_rm4 (m : MethodId) (p0 : Int32) (p1 : Int32) (p2 : Int32) : entryFrame m #[(.int p0), (.int p1), (.int p2)] 3 = mkF m 0 #[.val (.int p0), .val (.int p1), .val (.int p2)] [] := by first | (simp [entryFrame, mkF, argsToLocals, Value.category]; done) | rfl
set_option maxRecDepth 65536 in
set_option maxHeartbeats 40000000 in
theorem own_rm4 (l : Launch) (Z : State) (a0 : Array Value) (hw : ∀ d ∈ tables_1, d.before a0 Z = true) (ws : List Jvm.Cond) (p0 : Int32) (p1 : Int32) (p2 : Int32) (h0 : Heap) (n0 : Nat) (Z0 : n0 ≤ h0.size) :
    MetFree l (⟨"com/example/hardy_election/hardyelection/EnabledSetSetPinLaw", "apply", "(IIZ)I"⟩ : MethodName) (head1 (Jvm.Cond.code (⟨"com/example/hardy_election/hardyelection/EnabledSetSetPinLaw", "apply", "(IIZ)I"⟩ : MethodName) method_3_code 3 (some .int) :: ws) ({ frames := 0, cells := 0, slots := 0, locals := 0 } : Room)) (fun a U => a = #[(.int p0), (.int p1), (.int p2)] ∧ Z.Warmed39 U.vm ∧ U.heap = h0) (fun _ _ _ _ _ => True) (fun _ U o U' => ∃ v L, o = .returned v ∧ own_Q4 Z p0 p1 p2 h0 n0 v U'.heap L ∧ FrameEnd U o U' L ({ frames := 0, cells := 0, slots := 0, locals := 0 } : Room).cells ({ frames := 0, cells := 0, slots := 0, locals := 0 } : Room).slots) := by
  refine MetFree.of_bodySF (plainFor_of_name own_pn_rm4) hisR ?_
  intro p e s m args below meth c s₁ Bd hml0 hP hK
  obtain ⟨rfl, hZ, hh⟩ := hP
  have hx := Bd.exec
  have hby := Bd.bytes
  have hml : c.maxLocals = 3 := hml0
  have hown : s.vm.findClass "com/example/hardy_election/hardyelection/EnabledSetSetPinLaw" = some m.cls := findClass_of_methodNamed Bd.named
  have hnm := (name_of_methodNamed Bd.named Bd.method).1
  have X0 : Stand p l e ({ frames := 0, cells := 0, slots := 0, locals := 0 } : Room) s m #[(.int p0), (.int p1), (.int p2)] below meth c s₁ [] 0 0 := Stand.of_body Bd
  have e0 : s₁.heap = h0 := by rw [← hh, Bd.state]; rfl
  have N0 := Fr.nil n0
  show own_End p e below s (own_Q4 Z p0 p1 p2 h0 n0) ({ frames := 0, cells := 0, slots := 0, locals := 0 } : Room).cells ({ frames := 0, cells := 0, slots := 0, locals := 0 } : Room).slots (s₁.setTop (entryFrame m #[(.int p0), (.int p1), (.int p2)] 3))
  rw [own_ef_rm4]
  refine own_iloadN X0 hx (hb hby own_d4_0) rfl (q := 1) rfl ?_
  by_cases hc1_1 : p2 = (0 : Int32)
  · refine own_ifY X0 hx (hb hby own_d4_1) (teq hc1_1).1 (q := 12) (by decide) (by decide) ?_
    refine own_iloadN X0 hx (hb hby own_d4_12) rfl (q := 13) rfl ?_
    refine own_iconst X0 hx (hb hby own_d4_13) (z := 1) rfl (q := 14) rfl ?_
    refine own_iloadN X0 hx (hb hby own_d4_14) rfl (q := 15) rfl ?_
    refine own_ishl X0 hx (hb hby own_d4_15) (q := 16) rfl ?_
    refine own_iconst X0 hx (hb hby own_d4_16) (z := -1) rfl (q := 17) rfl ?_
    refine own_ixor X0 hx (hb hby own_d4_17) (q := 18) rfl ?_
    refine own_iand X0 hx (hb hby own_d4_18) (q := 19) rfl ?_
    refine own_retI X0 hx Bd.returns Bd.notSynchronized (by decide) (by decide) (hb hby own_d4_19) ?_
    show own_Q4 Z p0 p1 p2 h0 n0 _ s₁.heap _
    exact ⟨(by simp only [own_F4, if_pos hc1_1]), N0, e0⟩
  · refine own_ifN X0 hx (hb hby own_d4_1) (feq hc1_1).1 (q := 4) rfl ?_
    refine own_iloadN X0 hx (hb hby own_d4_4) rfl (q := 5) rfl ?_
    refine own_iconst X0 hx (hb hby own_d4_5) (z := 1) rfl (q := 6) rfl ?_
    refine own_iloadN X0 hx (hb hby own_d4_6) rfl (q := 7) rfl ?_
    refine own_ishl X0 hx (hb hby own_d4_7) (q := 8) rfl ?_
    refine own_ior X0 hx (hb hby own_d4_8) (q := 9) rfl ?_
    refine own_goto X0 hx (hb hby own_d4_9) (q := 19) (by decide) (by decide) ?_
    refine own_retI X0 hx Bd.returns Bd.notSynchronized (by decide) (by decide) (hb hby own_d4_19) ?_
    show own_Q4 Z p0 p1 p2 h0 n0 _ s₁.heap _
    exact ⟨(by simp only [own_F4, if_neg hc1_1]), N0, e0⟩
theorem own_d5_0 : decode method_2_code 0 = .ok (.iload_n 0, 1) := by decide +kernel
theorem own_d5_1 : decode method_2_code 1 = .ok (.iconst 1, 1) := by decide +kernel
theorem own_d5_2 : decode method_2_code 2 = .ok (.iand, 1) := by decide +kernel
theorem own_d5_3 : decode method_2_code 3 = .ok (.iload_n 0, 1) := by decide +kernel
theorem own_d5_4 : decode method_2_code 4 = .ok (.iconst 1, 1) := by decide +kernel
theorem own_d5_5 : decode method_2_code 5 = .ok (.ishr, 1) := by decide +kernel
theorem own_d5_6 : decode method_2_code 6 = .ok (.iconst 1, 1) := by decide +kernel
theorem own_d5_7 : decode method_2_code 7 = .ok (.iand, 1) := by decide +kernel
theorem own_d5_8 : decode method_2_code 8 = .ok (.iadd, 1) := by decide +kernel
theorem own_d5_9 : decode method_2_code 9 = .ok (.iload_n 0, 1) := by decide +kernel
theorem own_d5_10 : decode method_2_code 10 = .ok (.iconst 2, 1) := by decide +kernel
theorem own_d5_11 : decode method_2_code 11 = .ok (.ishr, 1) := by decide +kernel
theorem own_d5_12 : decode method_2_code 12 = .ok (.iconst 1, 1) := by decide +kernel
theorem own_d5_13 : decode method_2_code 13 = .ok (.iand, 1) := by decide +kernel
theorem own_d5_14 : decode method_2_code 14 = .ok (.iadd, 1) := by decide +kernel
theorem own_d5_15 : decode method_2_code 15 = .ok (.iload_n 0, 1) := by decide +kernel
theorem own_d5_16 : decode method_2_code 16 = .ok (.iconst 3, 1) := by decide +kernel
theorem own_d5_17 : decode method_2_code 17 = .ok (.ishr, 1) := by decide +kernel
theorem own_d5_18 : decode method_2_code 18 = .ok (.iconst 1, 1) := by decide +kernel
theorem own_d5_19 : decode method_2_code 19 = .ok (.iand, 1) := by decide +kernel
theorem own_d5_20 : decode method_2_code 20 = .ok (.iadd, 1) := by decide +kernel
theorem own_d5_21 : decode method_2_code 21 = .ok (.iload_n 0, 1) := by decide +kernel
theorem own_d5_22 : decode method_2_code 22 = .ok (.iconst 4, 1) := by decide +kernel
theorem own_d5_23 : decode method_2_code 23 = .ok (.ishr, 1) := by decide +kernel
theorem own_d5_24 : decode method_2_code 24 = .ok (.iconst 1, 1) := by decide +kernel
theorem own_d5_25 : decode method_2_code 25 = .ok (.iand, 1) := by decide +kernel
theorem own_d5_26 : decode method_2_code 26 = .ok (.iadd, 1) := by decide +kernel
theorem own_d5_27 : decode method_2_code 27 = .ok (.iload_n 0, 1) := by decide +kernel
theorem own_d5_28 : decode method_2_code 28 = .ok (.iconst 5, 1) := by decide +kernel
theorem own_d5_29 : decode method_2_code 29 = .ok (.ishr, 1) := by decide +kernel
theorem own_d5_30 : decode method_2_code 30 = .ok (.iconst 1, 1) := by decide +kernel
theorem own_d5_31 : decode method_2_code 31 = .ok (.iand, 1) := by decide +kernel
theorem own_d5_32 : decode method_2_code 32 = .ok (.iadd, 1) := by decide +kernel
theorem own_d5_33 : decode method_2_code 33 = .ok (.iload_n 0, 1) := by decide +kernel
theorem own_d5_34 : decode method_2_code 34 = .ok (.bipush 6, 2) := by decide +kernel
theorem own_d5_36 : decode method_2_code 36 = .ok (.ishr, 1) := by decide +kernel
theorem own_d5_37 : decode method_2_code 37 = .ok (.iconst 1, 1) := by decide +kernel
theorem own_d5_38 : decode method_2_code 38 = .ok (.iand, 1) := by decide +kernel
theorem own_d5_39 : decode method_2_code 39 = .ok (.iadd, 1) := by decide +kernel
theorem own_d5_40 : decode method_2_code 40 = .ok (.iload_n 0, 1) := by decide +kernel
theorem own_d5_41 : decode method_2_code 41 = .ok (.bipush 7, 2) := by decide +kernel
theorem own_d5_43 : decode method_2_code 43 = .ok (.ishr, 1) := by decide +kernel
theorem own_d5_44 : decode method_2_code 44 = .ok (.iconst 1, 1) := by decide +kernel
theorem own_d5_45 : decode method_2_code 45 = .ok (.iand, 1) := by decide +kernel
theorem own_d5_46 : decode method_2_code 46 = .ok (.iadd, 1) := by decide +kernel
theorem own_d5_47 : decode method_2_code 47 = .ok (.ireturn, 1) := by decide +kernel
def own_F5 (p0 : Int32) : Int32 := ((((((((p0 &&& (1 : Int32)) + ((p0 >>> ((1 : Int32) &&& 31)) &&& (1 : Int32))) + ((p0 >>> ((2 : Int32) &&& 31)) &&& (1 : Int32))) + ((p0 >>> ((3 : Int32) &&& 31)) &&& (1 : Int32))) + ((p0 >>> ((4 : Int32) &&& 31)) &&& (1 : Int32))) + ((p0 >>> ((5 : Int32) &&& 31)) &&& (1 : Int32))) + ((p0 >>> ((6 : Int32) &&& 31)) &&& (1 : Int32))) + ((p0 >>> ((7 : Int32) &&& 31)) &&& (1 : Int32)))
def own_Q5 (Z : State) (p0 : Int32) (h0 : Heap) (n0 : Nat) (v : Option Value) (h : Heap) (L : List Loc) : Prop := v = some (.int (own_F5 p0)) ∧ Fr n0 L ∧ h = h0
theorem own_pn_rm5 : plainName "com/example/hardy_election/hardyelection/EnabledSetSetPinLaw" = true := by first | (simp [plainName, overriddenIn]; done) | decide +kernel
theorem own_ef_rm5 (m : MethodId) (p0 : Int32) : entryFrame m #[(.int p0)] 1 = mkF m 0 #[.val (.int p0)] [] := by first | (simp [entryFrame, mkF, argsToLocals, Value.category]; done) | rfl
set_option maxRecDepth 65536 in
set_option maxHeartbeats 40000000 in
theorem own_rm5 (l : Launch) (Z : State) (a0 : Array Value) (hw : ∀ d ∈ tables_1, d.before a0 Z = true) (ws : List Jvm.Cond) (p0 : Int32) (h0 : Heap) (n0 : Nat) (Z0 : n0 ≤ h0.size) :
    MetFree l (⟨"com/example/hardy_election/hardyelection/EnabledSetSetPinLaw", "pop", "(I)I"⟩ : MethodName) (head1 (Jvm.Cond.code (⟨"com/example/hardy_election/hardyelection/EnabledSetSetPinLaw", "pop", "(I)I"⟩ : MethodName) method_2_code 1 (some .int) :: ws) ({ frames := 0, cells := 0, slots := 0, locals := 0 } : Room)) (fun a U => a = #[(.int p0)] ∧ Z.Warmed39 U.vm ∧ U.heap = h0) (fun _ _ _ _ _ => True) (fun _ U o U' => ∃ v L, o = .returned v ∧ own_Q5 Z p0 h0 n0 v U'.heap L ∧ FrameEnd U o U' L ({ frames := 0, cells := 0, slots := 0, locals := 0 } : Room).cells ({ frames := 0, cells := 0, slots := 0, locals := 0 } : Room).slots) := by
  refine MetFree.of_bodySF (plainFor_of_name own_pn_rm5) hisR ?_
  intro p e s m args below meth c s₁ Bd hml0 hP hK
  obtain ⟨rfl, hZ, hh⟩ := hP
  have hx := Bd.exec
  have hby := Bd.bytes
  have hml : c.maxLocals = 1 := hml0
  have hown : s.vm.findClass "com/example/hardy_election/hardyelection/EnabledSetSetPinLaw" = some m.cls := findClass_of_methodNamed Bd.named
  have hnm := (name_of_methodNamed Bd.named Bd.method).1
  have X0 : Stand p l e ({ frames := 0, cells := 0, slots := 0, locals := 0 } : Room) s m #[(.int p0)] below meth c s₁ [] 0 0 := Stand.of_body Bd
  have e0 : s₁.heap = h0 := by rw [← hh, Bd.state]; rfl
  have N0 := Fr.nil n0
  show own_End p e below s (own_Q5 Z p0 h0 n0) ({ frames := 0, cells := 0, slots := 0, locals := 0 } : Room).cells ({ frames := 0, cells := 0, slots := 0, locals := 0 } : Room).slots (s₁.setTop (entryFrame m #[(.int p0)] 1))
  rw [own_ef_rm5]
  refine own_iloadN X0 hx (hb hby own_d5_0) rfl (q := 1) rfl ?_
  refine own_iconst X0 hx (hb hby own_d5_1) (z := 1) rfl (q := 2) rfl ?_
  refine own_iand X0 hx (hb hby own_d5_2) (q := 3) rfl ?_
  refine own_iloadN X0 hx (hb hby own_d5_3) rfl (q := 4) rfl ?_
  refine own_iconst X0 hx (hb hby own_d5_4) (z := 1) rfl (q := 5) rfl ?_
  refine own_ishr X0 hx (hb hby own_d5_5) (q := 6) rfl ?_
  refine own_iconst X0 hx (hb hby own_d5_6) (z := 1) rfl (q := 7) rfl ?_
  refine own_iand X0 hx (hb hby own_d5_7) (q := 8) rfl ?_
  refine own_iadd X0 hx (hb hby own_d5_8) (q := 9) rfl ?_
  refine own_iloadN X0 hx (hb hby own_d5_9) rfl (q := 10) rfl ?_
  refine own_iconst X0 hx (hb hby own_d5_10) (z := 2) rfl (q := 11) rfl ?_
  refine own_ishr X0 hx (hb hby own_d5_11) (q := 12) rfl ?_
  refine own_iconst X0 hx (hb hby own_d5_12) (z := 1) rfl (q := 13) rfl ?_
  refine own_iand X0 hx (hb hby own_d5_13) (q := 14) rfl ?_
  refine own_iadd X0 hx (hb hby own_d5_14) (q := 15) rfl ?_
  refine own_iloadN X0 hx (hb hby own_d5_15) rfl (q := 16) rfl ?_
  refine own_iconst X0 hx (hb hby own_d5_16) (z := 3) rfl (q := 17) rfl ?_
  refine own_ishr X0 hx (hb hby own_d5_17) (q := 18) rfl ?_
  refine own_iconst X0 hx (hb hby own_d5_18) (z := 1) rfl (q := 19) rfl ?_
  refine own_iand X0 hx (hb hby own_d5_19) (q := 20) rfl ?_
  refine own_iadd X0 hx (hb hby own_d5_20) (q := 21) rfl ?_
  refine own_iloadN X0 hx (hb hby own_d5_21) rfl (q := 22) rfl ?_
  refine own_iconst X0 hx (hb hby own_d5_22) (z := 4) rfl (q := 23) rfl ?_
  refine own_ishr X0 hx (hb hby own_d5_23) (q := 24) rfl ?_
  refine own_iconst X0 hx (hb hby own_d5_24) (z := 1) rfl (q := 25) rfl ?_
  refine own_iand X0 hx (hb hby own_d5_25) (q := 26) rfl ?_
  refine own_iadd X0 hx (hb hby own_d5_26) (q := 27) rfl ?_
  refine own_iloadN X0 hx (hb hby own_d5_27) rfl (q := 28) rfl ?_
  refine own_iconst X0 hx (hb hby own_d5_28) (z := 5) rfl (q := 29) rfl ?_
  refine own_ishr X0 hx (hb hby own_d5_29) (q := 30) rfl ?_
  refine own_iconst X0 hx (hb hby own_d5_30) (z := 1) rfl (q := 31) rfl ?_
  refine own_iand X0 hx (hb hby own_d5_31) (q := 32) rfl ?_
  refine own_iadd X0 hx (hb hby own_d5_32) (q := 33) rfl ?_
  refine own_iloadN X0 hx (hb hby own_d5_33) rfl (q := 34) rfl ?_
  refine own_bipush X0 hx (hb hby own_d5_34) (z := 6) rfl (q := 36) rfl ?_
  refine own_ishr X0 hx (hb hby own_d5_36) (q := 37) rfl ?_
  refine own_iconst X0 hx (hb hby own_d5_37) (z := 1) rfl (q := 38) rfl ?_
  refine own_iand X0 hx (hb hby own_d5_38) (q := 39) rfl ?_
  refine own_iadd X0 hx (hb hby own_d5_39) (q := 40) rfl ?_
  refine own_iloadN X0 hx (hb hby own_d5_40) rfl (q := 41) rfl ?_
  refine own_bipush X0 hx (hb hby own_d5_41) (z := 7) rfl (q := 43) rfl ?_
  refine own_ishr X0 hx (hb hby own_d5_43) (q := 44) rfl ?_
  refine own_iconst X0 hx (hb hby own_d5_44) (z := 1) rfl (q := 45) rfl ?_
  refine own_iand X0 hx (hb hby own_d5_45) (q := 46) rfl ?_
  refine own_iadd X0 hx (hb hby own_d5_46) (q := 47) rfl ?_
  refine own_retI X0 hx Bd.returns Bd.notSynchronized (by decide) (by decide) (hb hby own_d5_47) ?_
  show own_Q5 Z p0 h0 n0 _ s₁.heap _
  exact ⟨(by simp only [own_F5, ]), N0, e0⟩
theorem own_d8_0 : decode jdk_29_method_69_code 0 = .ok (.iload_n 0, 1) := by decide +kernel
theorem own_d8_1 : decode jdk_29_method_69_code 1 = .ok (.iload_n 1, 1) := by decide +kernel
theorem own_d8_2 : decode jdk_29_method_69_code 2 = .ok (.if_icmp .gt 7, 3) := by decide +kernel
theorem own_d8_9 : decode jdk_29_method_69_code 9 = .ok (.iload_n 1, 1) := by decide +kernel
theorem own_d8_10 : decode jdk_29_method_69_code 10 = .ok (.ireturn, 1) := by decide +kernel
theorem own_d8_5 : decode jdk_29_method_69_code 5 = .ok (.iload_n 0, 1) := by decide +kernel
theorem own_d8_6 : decode jdk_29_method_69_code 6 = .ok (.goto 4, 3) := by decide +kernel
def own_F8 (p0 : Int32) (p1 : Int32) : Int32 := (if p1 < p0 then p1 else p0)
def own_Q8 (Z : State) (p0 : Int32) (p1 : Int32) (h0 : Heap) (n0 : Nat) (v : Option Value) (h : Heap) (L : List Loc) : Prop := v = some (.int (own_F8 p0 p1)) ∧ Fr n0 L ∧ h = h0
theorem own_ef_rm8 (m : MethodId) (p0 : Int32) (p1 : Int32) : entryFrame m #[(.int p0), (.int p1)] 2 = mkF m 0 #[.val (.int p0), .val (.int p1)] [] := by first | (simp [entryFrame, mkF, argsToLocals, Value.category]; done) | rfl
set_option maxRecDepth 65536 in
set_option maxHeartbeats 40000000 in
theorem own_rm8 (l : Launch) (Z : State) (a0 : Array Value) (hw : ∀ d ∈ tables_1, d.before a0 Z = true) (ws : List Jvm.Cond) (p0 : Int32) (p1 : Int32) (h0 : Heap) (n0 : Nat) (Z0 : n0 ≤ h0.size) :
    MetFree l (⟨"java/lang/Math", "min", "(II)I"⟩ : MethodName) (head1 (Jvm.Cond.code (⟨"java/lang/Math", "min", "(II)I"⟩ : MethodName) jdk_29_method_69_code 2 (some .int) :: ws) ({ frames := 0, cells := 0, slots := 0, locals := 0 } : Room)) (fun a U => a = #[(.int p0), (.int p1)] ∧ Z.Warmed39 U.vm ∧ U.heap = h0) (fun _ _ _ _ _ => True) (fun _ U o U' => ∃ v L, o = .returned v ∧ own_Q8 Z p0 p1 h0 n0 v U'.heap L ∧ FrameEnd U o U' L ({ frames := 0, cells := 0, slots := 0, locals := 0 } : Room).cells ({ frames := 0, cells := 0, slots := 0, locals := 0 } : Room).slots) := by
  refine MetFree.of_bodySF (Jvm.Free.JP.mathPlain rfl (by decide +kernel)) hisR ?_
  intro p e s m args below meth c s₁ Bd hml0 hP hK
  obtain ⟨rfl, hZ, hh⟩ := hP
  have hx := Bd.exec
  have hby := Bd.bytes
  have hml : c.maxLocals = 2 := hml0
  have hown : s.vm.findClass "java/lang/Math" = some m.cls := findClass_of_methodNamed Bd.named
  have hnm := (name_of_methodNamed Bd.named Bd.method).1
  have X0 : Stand p l e ({ frames := 0, cells := 0, slots := 0, locals := 0 } : Room) s m #[(.int p0), (.int p1)] below meth c s₁ [] 0 0 := Stand.of_body Bd
  have e0 : s₁.heap = h0 := by rw [← hh, Bd.state]; rfl
  have N0 := Fr.nil n0
  show own_End p e below s (own_Q8 Z p0 p1 h0 n0) ({ frames := 0, cells := 0, slots := 0, locals := 0 } : Room).cells ({ frames := 0, cells := 0, slots := 0, locals := 0 } : Room).slots (s₁.setTop (entryFrame m #[(.int p0), (.int p1)] 2))
  rw [own_ef_rm8]
  refine own_iloadN X0 hx (hb hby own_d8_0) rfl (q := 1) rfl ?_
  refine own_iloadN X0 hx (hb hby own_d8_1) rfl (q := 2) rfl ?_
  by_cases hc2_5 : p1 < p0
  · refine own_icY X0 hx (hb hby own_d8_2) (tlt hc2_5).2.2.1 (q := 9) (by decide) (by decide) ?_
    refine own_iloadN X0 hx (hb hby own_d8_9) rfl (q := 10) rfl ?_
    refine own_retI X0 hx Bd.returns Bd.notSynchronized (by decide) (by decide) (hb hby own_d8_10) ?_
    show own_Q8 Z p0 p1 h0 n0 _ s₁.heap _
    exact ⟨(by simp only [own_F8, if_pos hc2_5]), N0, e0⟩
  · refine own_icN X0 hx (hb hby own_d8_2) (flt hc2_5).2.2.1 (q := 5) rfl ?_
    refine own_iloadN X0 hx (hb hby own_d8_5) rfl (q := 6) rfl ?_
    refine own_goto X0 hx (hb hby own_d8_6) (q := 10) (by decide) (by decide) ?_
    refine own_retI X0 hx Bd.returns Bd.notSynchronized (by decide) (by decide) (hb hby own_d8_10) ?_
    show own_Q8 Z p0 p1 h0 n0 _ s₁.heap _
    exact ⟨(by simp only [own_F8, if_neg hc2_5]), N0, e0⟩
theorem own_d12_0 : decode jdk_33_method_47_code 0 = .ok (.iload_n 0, 1) := by decide +kernel
theorem own_d12_1 : decode jdk_33_method_47_code 1 = .ok (.ifCond .gt 14, 3) := by decide +kernel
theorem own_d12_15 : decode jdk_33_method_47_code 15 = .ok (.bipush 31, 2) := by decide +kernel
theorem own_d12_17 : decode jdk_33_method_47_code 17 = .ok (.istore_n 1, 1) := by decide +kernel
theorem own_d12_18 : decode jdk_33_method_47_code 18 = .ok (.iload_n 0, 1) := by decide +kernel
theorem own_d12_19 : decode jdk_33_method_47_code 19 = .ok (.ldc_w 264, 3) := by decide +kernel
theorem own_d12_22 : decode jdk_33_method_47_code 22 = .ok (.if_icmp .lt 11, 3) := by decide +kernel
theorem own_d12_25 : decode jdk_33_method_47_code 25 = .ok (.iinc 1 (-16), 3) := by decide +kernel
theorem own_d12_28 : decode jdk_33_method_47_code 28 = .ok (.iload_n 0, 1) := by decide +kernel
theorem own_d12_29 : decode jdk_33_method_47_code 29 = .ok (.bipush 16, 2) := by decide +kernel
theorem own_d12_31 : decode jdk_33_method_47_code 31 = .ok (.iushr, 1) := by decide +kernel
theorem own_d12_32 : decode jdk_33_method_47_code 32 = .ok (.istore_n 0, 1) := by decide +kernel
def own_M12_22 (p0 : Int32) : Int32 := (if p0 < (65536 : Int32) then p0 else ((p0.toUInt32 >>> ((16 : Int32) &&& 31).toUInt32).toInt32))
def own_M12_22_b (p0 : Int32) : Int32 := (if p0 < (65536 : Int32) then (31 : Int32) else (15 : Int32))
theorem own_d12_33 : decode jdk_33_method_47_code 33 = .ok (.iload_n 0, 1) := by decide +kernel
theorem own_d12_34 : decode jdk_33_method_47_code 34 = .ok (.sipush 256, 3) := by decide +kernel
theorem own_d12_37 : decode jdk_33_method_47_code 37 = .ok (.if_icmp .lt 11, 3) := by decide +kernel
theorem own_d12_40 : decode jdk_33_method_47_code 40 = .ok (.iinc 1 (-8), 3) := by decide +kernel
theorem own_d12_43 : decode jdk_33_method_47_code 43 = .ok (.iload_n 0, 1) := by decide +kernel
theorem own_d12_44 : decode jdk_33_method_47_code 44 = .ok (.bipush 8, 2) := by decide +kernel
theorem own_d12_46 : decode jdk_33_method_47_code 46 = .ok (.iushr, 1) := by decide +kernel
theorem own_d12_47 : decode jdk_33_method_47_code 47 = .ok (.istore_n 0, 1) := by decide +kernel
def own_M12_37 (p0 : Int32) : Int32 := (if (own_M12_22 p0) < (256 : Int32) then (own_M12_22 p0) else (((own_M12_22 p0).toUInt32 >>> ((8 : Int32) &&& 31).toUInt32).toInt32))
def own_M12_37_b (p0 : Int32) : Int32 := (if (own_M12_22 p0) < (256 : Int32) then (own_M12_22_b p0) else ((own_M12_22_b p0) + (-8 : Int32)))
theorem own_d12_48 : decode jdk_33_method_47_code 48 = .ok (.iload_n 0, 1) := by decide +kernel
theorem own_d12_49 : decode jdk_33_method_47_code 49 = .ok (.bipush 16, 2) := by decide +kernel
theorem own_d12_51 : decode jdk_33_method_47_code 51 = .ok (.if_icmp .lt 10, 3) := by decide +kernel
theorem own_d12_54 : decode jdk_33_method_47_code 54 = .ok (.iinc 1 (-4), 3) := by decide +kernel
theorem own_d12_57 : decode jdk_33_method_47_code 57 = .ok (.iload_n 0, 1) := by decide +kernel
theorem own_d12_58 : decode jdk_33_method_47_code 58 = .ok (.iconst 4, 1) := by decide +kernel
theorem own_d12_59 : decode jdk_33_method_47_code 59 = .ok (.iushr, 1) := by decide +kernel
theorem own_d12_60 : decode jdk_33_method_47_code 60 = .ok (.istore_n 0, 1) := by decide +kernel
def own_M12_51 (p0 : Int32) : Int32 := (if (own_M12_37 p0) < (16 : Int32) then (own_M12_37 p0) else (((own_M12_37 p0).toUInt32 >>> ((4 : Int32) &&& 31).toUInt32).toInt32))
def own_M12_51_b (p0 : Int32) : Int32 := (if (own_M12_37 p0) < (16 : Int32) then (own_M12_37_b p0) else ((own_M12_37_b p0) + (-4 : Int32)))
theorem own_d12_61 : decode jdk_33_method_47_code 61 = .ok (.iload_n 0, 1) := by decide +kernel
theorem own_d12_62 : decode jdk_33_method_47_code 62 = .ok (.iconst 4, 1) := by decide +kernel
theorem own_d12_63 : decode jdk_33_method_47_code 63 = .ok (.if_icmp .lt 10, 3) := by decide +kernel
theorem own_d12_66 : decode jdk_33_method_47_code 66 = .ok (.iinc 1 (-2), 3) := by decide +kernel
theorem own_d12_69 : decode jdk_33_method_47_code 69 = .ok (.iload_n 0, 1) := by decide +kernel
theorem own_d12_70 : decode jdk_33_method_47_code 70 = .ok (.iconst 2, 1) := by decide +kernel
theorem own_d12_71 : decode jdk_33_method_47_code 71 = .ok (.iushr, 1) := by decide +kernel
theorem own_d12_72 : decode jdk_33_method_47_code 72 = .ok (.istore_n 0, 1) := by decide +kernel
def own_M12_63 (p0 : Int32) : Int32 := (if (own_M12_51 p0) < (4 : Int32) then (own_M12_51 p0) else (((own_M12_51 p0).toUInt32 >>> ((2 : Int32) &&& 31).toUInt32).toInt32))
def own_M12_63_b (p0 : Int32) : Int32 := (if (own_M12_51 p0) < (4 : Int32) then (own_M12_51_b p0) else ((own_M12_51_b p0) + (-2 : Int32)))
theorem own_d12_73 : decode jdk_33_method_47_code 73 = .ok (.iload_n 1, 1) := by decide +kernel
theorem own_d12_74 : decode jdk_33_method_47_code 74 = .ok (.iload_n 0, 1) := by decide +kernel
theorem own_d12_75 : decode jdk_33_method_47_code 75 = .ok (.iconst 1, 1) := by decide +kernel
theorem own_d12_76 : decode jdk_33_method_47_code 76 = .ok (.iushr, 1) := by decide +kernel
theorem own_d12_77 : decode jdk_33_method_47_code 77 = .ok (.isub, 1) := by decide +kernel
theorem own_d12_78 : decode jdk_33_method_47_code 78 = .ok (.ireturn, 1) := by decide +kernel
theorem own_d12_4 : decode jdk_33_method_47_code 4 = .ok (.iload_n 0, 1) := by decide +kernel
theorem own_d12_5 : decode jdk_33_method_47_code 5 = .ok (.ifCond .ne 8, 3) := by decide +kernel
theorem own_d12_8 : decode jdk_33_method_47_code 8 = .ok (.bipush 32, 2) := by decide +kernel
theorem own_d12_10 : decode jdk_33_method_47_code 10 = .ok (.goto 4, 3) := by decide +kernel
theorem own_d12_14 : decode jdk_33_method_47_code 14 = .ok (.ireturn, 1) := by decide +kernel
theorem own_d12_13 : decode jdk_33_method_47_code 13 = .ok (.iconst 0, 1) := by decide +kernel
def own_F12 (p0 : Int32) : Int32 := (if (0 : Int32) < p0 then ((own_M12_63_b p0) - (((own_M12_63 p0).toUInt32 >>> ((1 : Int32) &&& 31).toUInt32).toInt32)) else (if p0 = (0 : Int32) then (32 : Int32) else (0 : Int32)))
def own_Q12 (Z : State) (p0 : Int32) (h0 : Heap) (n0 : Nat) (v : Option Value) (h : Heap) (L : List Loc) : Prop := v = some (.int (own_F12 p0)) ∧ Fr n0 L ∧ h = h0
theorem own_pn_rm12 : plainName "java/lang/Integer" = true := by first | (simp [plainName, overriddenIn]; done) | decide +kernel
theorem own_ef_rm12 (m : MethodId) (p0 : Int32) : entryFrame m #[(.int p0)] 2 = mkF m 0 #[.val (.int p0), .unset] [] := by first | (simp [entryFrame, mkF, argsToLocals, Value.category]; done) | rfl
set_option maxRecDepth 65536 in
set_option maxHeartbeats 40000000 in
theorem own_rm12 (l : Launch) (Z : State) (a0 : Array Value) (hw : ∀ d ∈ tables_1, d.before a0 Z = true) (ws : List Jvm.Cond) (p0 : Int32) (h0 : Heap) (n0 : Nat) (Z0 : n0 ≤ h0.size) :
    MetFree l (⟨"java/lang/Integer", "numberOfLeadingZeros", "(I)I"⟩ : MethodName) (head1 (Jvm.Cond.code (⟨"java/lang/Integer", "numberOfLeadingZeros", "(I)I"⟩ : MethodName) jdk_33_method_47_code 2 (some .int) :: ws) ({ frames := 0, cells := 0, slots := 0, locals := 0 } : Room)) (fun a U => a = #[(.int p0)] ∧ Z.Warmed39 U.vm ∧ U.heap = h0) (fun _ _ _ _ _ => True) (fun _ U o U' => ∃ v L, o = .returned v ∧ own_Q12 Z p0 h0 n0 v U'.heap L ∧ FrameEnd U o U' L ({ frames := 0, cells := 0, slots := 0, locals := 0 } : Room).cells ({ frames := 0, cells := 0, slots := 0, locals := 0 } : Room).slots) := by
  refine MetFree.of_bodySF (plainFor_of_name own_pn_rm12) hisR ?_
  intro p e s m args below meth c s₁ Bd hml0 hP hK
  obtain ⟨rfl, hZ, hh⟩ := hP
  have hx := Bd.exec
  have hby := Bd.bytes
  have hml : c.maxLocals = 2 := hml0
  have hown : s.vm.findClass "java/lang/Integer" = some m.cls := findClass_of_methodNamed Bd.named
  have hnm := (name_of_methodNamed Bd.named Bd.method).1
  have X0 : Stand p l e ({ frames := 0, cells := 0, slots := 0, locals := 0 } : Room) s m #[(.int p0)] below meth c s₁ [] 0 0 := Stand.of_body Bd
  have e0 : s₁.heap = h0 := by rw [← hh, Bd.state]; rfl
  have N0 := Fr.nil n0
  show own_End p e below s (own_Q12 Z p0 h0 n0) ({ frames := 0, cells := 0, slots := 0, locals := 0 } : Room).cells ({ frames := 0, cells := 0, slots := 0, locals := 0 } : Room).slots (s₁.setTop (entryFrame m #[(.int p0)] 2))
  rw [own_ef_rm12]
  refine own_iloadN X0 hx (hb hby own_d12_0) rfl (q := 1) rfl ?_
  by_cases hc1_8 : (0 : Int32) < p0
  · refine own_ifY X0 hx (hb hby own_d12_1) (tlt hc1_8).2.2.1 (q := 15) (by decide) (by decide) ?_
    refine own_bipush X0 hx (hb hby own_d12_15) (z := 31) rfl (q := 17) rfl ?_
    refine own_istoreN X0 hx (hb hby own_d12_17) (l' := #[.val (.int p0), .val (.int (31 : Int32))]) rfl (q := 18) rfl ?_
    refine own_iloadN X0 hx (hb hby own_d12_18) rfl (q := 19) rfl ?_
    refine own_back (X0.ldcwInt hx hown (mvT hZ (hw _ (List.mem_of_getElem? (i := 62) rfl))) (g := (mkF m 19 #[.val (.int p0), .val (.int (31 : Int32))] [(.int p0)])) rfl (hb hby own_d12_19)) ?_
    show own_End p e below s _ _ _ (s₁.setTop (mkF m 22 #[.val (.int p0), .val (.int (31 : Int32))] [(.int (65536 : Int32)), (.int p0)]))
    suffices J12 : own_End p e below s (own_Q12 Z p0 h0 n0) ({ frames := 0, cells := 0, slots := 0, locals := 0 } : Room).cells ({ frames := 0, cells := 0, slots := 0, locals := 0 } : Room).slots (s₁.setTop (mkF m 33 #[.val (.int (own_M12_22 p0)), .val (.int (own_M12_22_b p0))] [])) by
      by_cases hc22_9 : p0 < (65536 : Int32)
      · refine own_icY X0 hx (hb hby own_d12_22) (tlt hc22_9).1 (q := 33) (by decide) (by decide) ?_
        simp only [own_M12_22, own_M12_22_b, if_pos hc22_9] at J12
        exact J12
      · refine own_icN X0 hx (hb hby own_d12_22) (flt hc22_9).1 (q := 25) rfl ?_
        refine own_iinc X0 hx (hb hby own_d12_25) rfl (z := -16) rfl (l' := #[.val (.int p0), .val (.int (15 : Int32))]) rfl (q := 28) rfl ?_
        refine own_iloadN X0 hx (hb hby own_d12_28) rfl (q := 29) rfl ?_
        refine own_bipush X0 hx (hb hby own_d12_29) (z := 16) rfl (q := 31) rfl ?_
        refine own_iushr X0 hx (hb hby own_d12_31) (q := 32) rfl ?_
        refine own_istoreN X0 hx (hb hby own_d12_32) (l' := #[.val (.int ((p0.toUInt32 >>> ((16 : Int32) &&& 31).toUInt32).toInt32)), .val (.int (15 : Int32))]) rfl (q := 33) rfl ?_
        simp only [own_M12_22, own_M12_22_b, if_neg hc22_9] at J12
        exact J12
    refine own_iloadN X0 hx (hb hby own_d12_33) rfl (q := 34) rfl ?_
    refine own_sipush X0 hx (hb hby own_d12_34) (z := 256) rfl (q := 37) rfl ?_
    suffices J16 : own_End p e below s (own_Q12 Z p0 h0 n0) ({ frames := 0, cells := 0, slots := 0, locals := 0 } : Room).cells ({ frames := 0, cells := 0, slots := 0, locals := 0 } : Room).slots (s₁.setTop (mkF m 48 #[.val (.int (own_M12_37 p0)), .val (.int (own_M12_37_b p0))] [])) by
      by_cases hc37_13 : (own_M12_22 p0) < (256 : Int32)
      · refine own_icY X0 hx (hb hby own_d12_37) (tlt hc37_13).1 (q := 48) (by decide) (by decide) ?_
        simp only [own_M12_37, own_M12_37_b, if_pos hc37_13] at J16
        exact J16
      · refine own_icN X0 hx (hb hby own_d12_37) (flt hc37_13).1 (q := 40) rfl ?_
        refine own_iinc X0 hx (hb hby own_d12_40) rfl (z := -8) rfl (l' := #[.val (.int (own_M12_22 p0)), .val (.int ((own_M12_22_b p0) + (-8 : Int32)))]) rfl (q := 43) rfl ?_
        refine own_iloadN X0 hx (hb hby own_d12_43) rfl (q := 44) rfl ?_
        refine own_bipush X0 hx (hb hby own_d12_44) (z := 8) rfl (q := 46) rfl ?_
        refine own_iushr X0 hx (hb hby own_d12_46) (q := 47) rfl ?_
        refine own_istoreN X0 hx (hb hby own_d12_47) (l' := #[.val (.int (((own_M12_22 p0).toUInt32 >>> ((8 : Int32) &&& 31).toUInt32).toInt32)), .val (.int ((own_M12_22_b p0) + (-8 : Int32)))]) rfl (q := 48) rfl ?_
        simp only [own_M12_37, own_M12_37_b, if_neg hc37_13] at J16
        exact J16
    refine own_iloadN X0 hx (hb hby own_d12_48) rfl (q := 49) rfl ?_
    refine own_bipush X0 hx (hb hby own_d12_49) (z := 16) rfl (q := 51) rfl ?_
    suffices J20 : own_End p e below s (own_Q12 Z p0 h0 n0) ({ frames := 0, cells := 0, slots := 0, locals := 0 } : Room).cells ({ frames := 0, cells := 0, slots := 0, locals := 0 } : Room).slots (s₁.setTop (mkF m 61 #[.val (.int (own_M12_51 p0)), .val (.int (own_M12_51_b p0))] [])) by
      by_cases hc51_17 : (own_M12_37 p0) < (16 : Int32)
      · refine own_icY X0 hx (hb hby own_d12_51) (tlt hc51_17).1 (q := 61) (by decide) (by decide) ?_
        simp only [own_M12_51, own_M12_51_b, if_pos hc51_17] at J20
        exact J20
      · refine own_icN X0 hx (hb hby own_d12_51) (flt hc51_17).1 (q := 54) rfl ?_
        refine own_iinc X0 hx (hb hby own_d12_54) rfl (z := -4) rfl (l' := #[.val (.int (own_M12_37 p0)), .val (.int ((own_M12_37_b p0) + (-4 : Int32)))]) rfl (q := 57) rfl ?_
        refine own_iloadN X0 hx (hb hby own_d12_57) rfl (q := 58) rfl ?_
        refine own_iconst X0 hx (hb hby own_d12_58) (z := 4) rfl (q := 59) rfl ?_
        refine own_iushr X0 hx (hb hby own_d12_59) (q := 60) rfl ?_
        refine own_istoreN X0 hx (hb hby own_d12_60) (l' := #[.val (.int (((own_M12_37 p0).toUInt32 >>> ((4 : Int32) &&& 31).toUInt32).toInt32)), .val (.int ((own_M12_37_b p0) + (-4 : Int32)))]) rfl (q := 61) rfl ?_
        simp only [own_M12_51, own_M12_51_b, if_neg hc51_17] at J20
        exact J20
    refine own_iloadN X0 hx (hb hby own_d12_61) rfl (q := 62) rfl ?_
    refine own_iconst X0 hx (hb hby own_d12_62) (z := 4) rfl (q := 63) rfl ?_
    suffices J24 : own_End p e below s (own_Q12 Z p0 h0 n0) ({ frames := 0, cells := 0, slots := 0, locals := 0 } : Room).cells ({ frames := 0, cells := 0, slots := 0, locals := 0 } : Room).slots (s₁.setTop (mkF m 73 #[.val (.int (own_M12_63 p0)), .val (.int (own_M12_63_b p0))] [])) by
      by_cases hc63_21 : (own_M12_51 p0) < (4 : Int32)
      · refine own_icY X0 hx (hb hby own_d12_63) (tlt hc63_21).1 (q := 73) (by decide) (by decide) ?_
        simp only [own_M12_63, own_M12_63_b, if_pos hc63_21] at J24
        exact J24
      · refine own_icN X0 hx (hb hby own_d12_63) (flt hc63_21).1 (q := 66) rfl ?_
        refine own_iinc X0 hx (hb hby own_d12_66) rfl (z := -2) rfl (l' := #[.val (.int (own_M12_51 p0)), .val (.int ((own_M12_51_b p0) + (-2 : Int32)))]) rfl (q := 69) rfl ?_
        refine own_iloadN X0 hx (hb hby own_d12_69) rfl (q := 70) rfl ?_
        refine own_iconst X0 hx (hb hby own_d12_70) (z := 2) rfl (q := 71) rfl ?_
        refine own_iushr X0 hx (hb hby own_d12_71) (q := 72) rfl ?_
        refine own_istoreN X0 hx (hb hby own_d12_72) (l' := #[.val (.int (((own_M12_51 p0).toUInt32 >>> ((2 : Int32) &&& 31).toUInt32).toInt32)), .val (.int ((own_M12_51_b p0) + (-2 : Int32)))]) rfl (q := 73) rfl ?_
        simp only [own_M12_63, own_M12_63_b, if_neg hc63_21] at J24
        exact J24
    refine own_iloadN X0 hx (hb hby own_d12_73) rfl (q := 74) rfl ?_
    refine own_iloadN X0 hx (hb hby own_d12_74) rfl (q := 75) rfl ?_
    refine own_iconst X0 hx (hb hby own_d12_75) (z := 1) rfl (q := 76) rfl ?_
    refine own_iushr X0 hx (hb hby own_d12_76) (q := 77) rfl ?_
    refine own_isub X0 hx (hb hby own_d12_77) (q := 78) rfl ?_
    refine own_retI X0 hx Bd.returns Bd.notSynchronized (by decide) (by decide) (hb hby own_d12_78) ?_
    show own_Q12 Z p0 h0 n0 _ s₁.heap _
    exact ⟨(by simp only [own_F12, if_pos hc1_8]), N0, e0⟩
  · refine own_ifN X0 hx (hb hby own_d12_1) (flt hc1_8).2.2.1 (q := 4) rfl ?_
    refine own_iloadN X0 hx (hb hby own_d12_4) rfl (q := 5) rfl ?_
    by_cases hc5_26 : p0 = (0 : Int32)
    · refine own_ifN X0 hx (hb hby own_d12_5) (teq hc5_26).2 (q := 8) rfl ?_
      refine own_bipush X0 hx (hb hby own_d12_8) (z := 32) rfl (q := 10) rfl ?_
      refine own_goto X0 hx (hb hby own_d12_10) (q := 14) (by decide) (by decide) ?_
      refine own_retI X0 hx Bd.returns Bd.notSynchronized (by decide) (by decide) (hb hby own_d12_14) ?_
      show own_Q12 Z p0 h0 n0 _ s₁.heap _
      exact ⟨(by simp only [own_F12, if_neg hc1_8, if_pos hc5_26]), N0, e0⟩
    · refine own_ifY X0 hx (hb hby own_d12_5) (feq hc5_26).2 (q := 13) (by decide) (by decide) ?_
      refine own_iconst X0 hx (hb hby own_d12_13) (z := 0) rfl (q := 14) rfl ?_
      refine own_retI X0 hx Bd.returns Bd.notSynchronized (by decide) (by decide) (hb hby own_d12_14) ?_
      show own_Q12 Z p0 h0 n0 _ s₁.heap _
      exact ⟨(by simp only [own_F12, if_neg hc1_8, if_neg hc5_26]), N0, e0⟩
theorem own_d11_0 : decode jdk_33_method_45_code 0 = .ok (.iload_n 0, 1) := by decide +kernel
theorem own_d11_1 : decode jdk_33_method_45_code 1 = .ok (.ldc 127, 2) := by decide +kernel
theorem own_d11_3 : decode jdk_33_method_45_code 3 = .ok (.iload_n 0, 1) := by decide +kernel
theorem own_d11_4 : decode jdk_33_method_45_code 4 = .ok (.invokestatic 51, 3) := by decide +kernel
theorem own_pd0 : parseMethodDescriptor "(I)I" = some ⟨[.int], some .int⟩ := by decide +kernel
theorem own_d11_7 : decode jdk_33_method_45_code 7 = .ok (.iushr, 1) := by decide +kernel
theorem own_d11_8 : decode jdk_33_method_45_code 8 = .ok (.iand, 1) := by decide +kernel
theorem own_d11_9 : decode jdk_33_method_45_code 9 = .ok (.ireturn, 1) := by decide +kernel
def own_F11 (p0 : Int32) : Int32 := (p0 &&& (((-2147483648 : Int32).toUInt32 >>> ((own_F12 p0) &&& 31).toUInt32).toInt32))
def own_Q11 (Z : State) (p0 : Int32) (h0 : Heap) (n0 : Nat) (v : Option Value) (h : Heap) (L : List Loc) : Prop := v = some (.int (own_F11 p0)) ∧ Fr n0 L ∧ h = h0
theorem own_pn_rm11 : plainName "java/lang/Integer" = true := by first | (simp [plainName, overriddenIn]; done) | decide +kernel
theorem own_ef_rm11 (m : MethodId) (p0 : Int32) : entryFrame m #[(.int p0)] 1 = mkF m 0 #[.val (.int p0)] [] := by first | (simp [entryFrame, mkF, argsToLocals, Value.category]; done) | rfl
set_option maxRecDepth 65536 in
set_option maxHeartbeats 40000000 in
theorem own_rm11 (l : Launch) (Z : State) (a0 : Array Value) (hw : ∀ d ∈ tables_1, d.before a0 Z = true) (ws : List Jvm.Cond) (p0 : Int32) (h0 : Heap) (n0 : Nat) (Z0 : n0 ≤ h0.size) :
    MetFree l (⟨"java/lang/Integer", "highestOneBit", "(I)I"⟩ : MethodName) (head1 (Jvm.Cond.code (⟨"java/lang/Integer", "highestOneBit", "(I)I"⟩ : MethodName) jdk_33_method_45_code 1 (some .int) :: ws) ({ frames := 1, cells := 0, slots := 0, locals := 15 } : Room)) (fun a U => a = #[(.int p0)] ∧ Z.Warmed39 U.vm ∧ U.heap = h0) (fun _ _ _ _ _ => True) (fun _ U o U' => ∃ v L, o = .returned v ∧ own_Q11 Z p0 h0 n0 v U'.heap L ∧ FrameEnd U o U' L ({ frames := 1, cells := 0, slots := 0, locals := 15 } : Room).cells ({ frames := 1, cells := 0, slots := 0, locals := 15 } : Room).slots) := by
  refine MetFree.of_bodySF (plainFor_of_name own_pn_rm11) hisR ?_
  intro p e s m args below meth c s₁ Bd hml0 hP hK
  obtain ⟨rfl, hZ, hh⟩ := hP
  have hx := Bd.exec
  have hby := Bd.bytes
  have hml : c.maxLocals = 1 := hml0
  have hown : s.vm.findClass "java/lang/Integer" = some m.cls := findClass_of_methodNamed Bd.named
  have hnm := (name_of_methodNamed Bd.named Bd.method).1
  have X0 : Stand p l e ({ frames := 1, cells := 0, slots := 0, locals := 15 } : Room) s m #[(.int p0)] below meth c s₁ [] 0 0 := Stand.of_body Bd
  have e0 : s₁.heap = h0 := by rw [← hh, Bd.state]; rfl
  have N0 := Fr.nil n0
  show own_End p e below s (own_Q11 Z p0 h0 n0) ({ frames := 1, cells := 0, slots := 0, locals := 15 } : Room).cells ({ frames := 1, cells := 0, slots := 0, locals := 15 } : Room).slots (s₁.setTop (entryFrame m #[(.int p0)] 1))
  rw [own_ef_rm11]
  refine own_iloadN X0 hx (hb hby own_d11_0) rfl (q := 1) rfl ?_
  refine own_back (X0.ldcInt hx hown (mvT hZ (hw _ (List.mem_of_getElem? (i := 58) rfl))) (g := (mkF m 1 #[.val (.int p0)] [(.int p0)])) rfl (hb hby own_d11_1)) ?_
  show own_End p e below s _ _ _ (s₁.setTop (mkF m 3 #[.val (.int p0)] [(.int (-2147483648 : Int32)), (.int p0)]))
  refine own_iloadN X0 hx (hb hby own_d11_3) rfl (q := 4) rfl ?_
  obtain ⟨T29, Lc29, L29, X29, N29, hQ29, st29⟩ := own_shutS (val := some (.int (own_F12 p0))) (Q := own_Q12 Z p0 h0 n0) (rc := 0) (rs := 0) N0 (fun _ _ _ q => ⟨q.1, q.2.1⟩) (Jvm.LawKit.callS X0 hx (y := (⟨"java/lang/Integer", "numberOfLeadingZeros", "(I)I"⟩ : MethodName)) hown (mvT hZ (hw _ (List.mem_of_getElem? (i := 59) rfl))) (mvT hZ (hw _ (List.mem_of_getElem? (i := 60) rfl))) (mvT hZ (hw _ (List.mem_of_getElem? (i := 56) rfl))) (mvT hZ (hw _ (List.mem_of_getElem? (i := 61) rfl))) (by decide) (backOf (W := 2) (own_rm12 l Z a0 hw [] p0 h0 n0 Z0 ) hZ (hw _ (List.mem_of_getElem? (i := 61) rfl)) (hw _ (List.mem_of_getElem? (i := 56) rfl)) (by decide) (by decide)) (g := (mkF m 4 #[.val (.int p0)] [(.int p0), (.int (-2147483648 : Int32)), (.int p0)])) rfl (by rw [hml]; rfl) (argsL := [(.int p0)]) (rest := [(.int (-2147483648 : Int32)), (.int p0)]) (lenOf own_pd0 rfl) rfl (by show 2 * 0 + _ ≤ _; exact Nat.le_of_eq rfl) (hb hby own_d11_4) (fun _ _ => ⟨rfl, e0, (by decide : 0 + 0 ≤ _), (by decide : 0 + 0 ≤ _)⟩))
  obtain ⟨-, -, e29⟩ := hQ29
  refine own_back st29 ?_
  show own_End p e below s _ _ _ (T29.setTop (mkF m 7 #[.val (.int p0)] [(.int (own_F12 p0)), (.int (-2147483648 : Int32)), (.int p0)]))
  refine own_iushr X29 hx (hb hby own_d11_7) (q := 8) rfl ?_
  refine own_iand X29 hx (hb hby own_d11_8) (q := 9) rfl ?_
  refine own_retI X29 hx Bd.returns Bd.notSynchronized (by decide) (by decide) (hb hby own_d11_9) ?_
  show own_Q11 Z p0 h0 n0 _ T29.heap _
  exact ⟨(by simp only [own_F11, ]), N29, e29⟩
theorem own_app : ∀ M : Fin 256, ∀ x : Fin 8, ∀ v : Bool, own_F4 (Int32.ofNat M.val) (Int32.ofNat x.val) (own_fl v) = Int32.ofNat (own_sM M x v) := by decide +kernel
theorem own_popc : ∀ M : Fin 256, own_F5 (Int32.ofNat M.val) = own_fc M := by decide +kernel
theorem own_below : ∀ M : Fin 256, ∀ j : Fin 9, own_sum (own_ft M) 9 (Int32.ofNat j.val) 0 = own_F5 (Int32.ofNat M.val &&& (((1 : Int32) <<< (Int32.ofNat j.val &&& 31)) - 1)) := by decide +kernel
theorem own_bel0 (f : Nat → Int32) (i : Int32) (h : ¬ 0 < i) : own_sum f 9 i 0 = 0 := by rw [own_sum, if_neg h]
theorem own_has : ∀ M : Fin 256, ∀ y : Fin 8, (own_bt M y &&& 1) = (if ((Int32.ofNat M.val >>> (Int32.ofNat y.val &&& 31)) &&& (1 : Int32)) = (1 : Int32) then (1 : Int32) else 0) := by decide +kernel
theorem own_down : ∀ N : Fin 9, ∀ j : Fin 9, j.val < N.val + 1 → own_endd (Int32.ofNat (N.val + 1)) 9 (Int32.ofNat j.val) = true := by decide +kernel
def own_selP (N M k : Nat) : Bool :=
  let r := own_sel (own_ft M) (Int32.ofNat (N + 1)) 9 0 (Int32.ofNat k) (own_F11 (Int32.ofNat N))
  own_selk (own_ft M) (Int32.ofNat (N + 1)) 9 0 (Int32.ofNat k) (own_F11 (Int32.ofNat N)) && !(decide (r < 0)) && decide (r < Int32.ofNat N) && decide (((Int32.ofNat M >>> (r &&& 31)) &&& (1 : Int32)) = 1) && decide (own_F5 (Int32.ofNat M &&& (((1 : Int32) <<< (r &&& 31)) - 1)) = Int32.ofNat k)
theorem own_size (p : Int32) : ∃ N, (1 ≤ N ∧ N ≤ 8) ∧ (1 : Int32) + (p &&& 7) = Int32.ofNat N := by
  have e1 : (p &&& 7).toInt = p.toInt % 2 ^ 3 := Jvm.Kit.i32_mask p 7 (k := 3) (by decide) (by decide)
  refine ⟨1 + (p &&& 7).toInt.toNat, by omega, ?_⟩
  apply Int32.toInt_inj.mp
  rw [Int32.toInt_ofNat_of_lt (by omega), Jvm.Kit.i32_add (by rw [show (1 : Int32).toInt = 1 from by decide]; omega) (by rw [show (1 : Int32).toInt = 1 from by decide]; omega), show (1 : Int32).toInt = 1 from by decide]
  omega
theorem own_nz (N : Nat) (h : 1 ≤ N ∧ N ≤ 8) : Int32.ofNat N ≠ 0 := fun q => by
  have := congrArg Int32.toInt q
  rw [Int32.toInt_ofNat_of_lt (by omega)] at this
  have z : (0 : Int32).toInt = 0 := by decide
  omega
theorem own_rem (X : Int32) (N : Nat) (h : 1 ≤ N ∧ N ≤ 8) (hX : 0 ≤ X.toInt) : ∃ x, x < N ∧ X % Int32.ofNat N = Int32.ofNat x := by
  have e : (Int32.ofNat N).toInt = N := Int32.toInt_ofNat_of_lt (by omega)
  have q1 := Int.emod_nonneg X.toInt (show (N : Int) ≠ 0 by omega)
  have q2 := Int.emod_lt_of_pos X.toInt (show 0 < (N : Int) by omega)
  refine ⟨(X.toInt % (N : Int)).toNat, by omega, ?_⟩
  apply Int32.toInt_inj.mp
  rw [Jvm.Kit.i32_rem_nonneg hX, e, Int32.toInt_ofNat_of_lt (by omega)]
  omega
theorem own_ush (X : Int32) : 0 ≤ ((X.toUInt32 >>> ((1 : Int32) &&& 31).toUInt32).toInt32).toInt := by
  have hb := X.toUInt32.toNat_lt
  have e : (X.toUInt32 >>> ((1 : Int32) &&& 31).toUInt32).toNat = X.toUInt32.toNat / 2 := by
    rw [UInt32.toNat_shiftRight, show ((1 : Int32) &&& 31).toUInt32.toNat % 32 = 1 from by decide, Nat.shiftRight_eq_div_pow]
  show 0 ≤ (X.toUInt32 >>> ((1 : Int32) &&& 31).toUInt32).toBitVec.toInt
  rw [BitVec.toInt_eq_toNat_cond]
  have e' : (X.toUInt32 >>> ((1 : Int32) &&& 31).toUInt32).toBitVec.toNat = X.toUInt32.toNat / 2 := e
  rw [e', if_pos (by omega)]
  omega
theorem own_msk (X : Int32) : 0 ≤ (X &&& 2147483647).toInt := by
  have e1 : (X &&& 2147483647).toInt = X.toInt % 2 ^ 31 := Jvm.Kit.i32_mask X 2147483647 (k := 31) (by decide) (by decide)
  omega
theorem own_min (q : Int32) (N : Nat) (hN : 1 ≤ N ∧ N ≤ 8) (h : 0 < q) : ∃ j, j < N + 1 ∧ own_F8 q (Int32.ofNat N) = Int32.ofNat j := by
  rw [own_F8]
  split
  · exact ⟨N, by omega, rfl⟩
  · rename_i c
    have e : (Int32.ofNat N).toInt = N := Int32.toInt_ofNat_of_lt (by omega)
    have z : (0 : Int32).toInt = 0 := by decide
    rw [Int32.lt_iff_toInt_lt, e] at c
    rw [Int32.lt_iff_toInt_lt, z] at h
    refine ⟨q.toInt.toNat, by omega, Int32.toInt_inj.mp ?_⟩
    rw [Int32.toInt_ofNat_of_lt (by omega)]; omega
theorem own_min0 (q : Int32) (N : Nat) (hN : 1 ≤ N ∧ N ≤ 8) (h : ¬ 0 < q) : ¬ 0 < own_F8 q (Int32.ofNat N) := by
  rw [own_F8]
  split
  · rename_i c
    have e : (Int32.ofNat N).toInt = N := Int32.toInt_ofNat_of_lt (by omega)
    have z : (0 : Int32).toInt = 0 := by decide
    rw [Int32.lt_iff_toInt_lt, e] at c
    rw [Int32.lt_iff_toInt_lt, z] at h
    omega
  · exact h
theorem own_dn0 (n1 i : Int32) (h : ¬ 0 < i) : own_endd n1 9 i = true := by rw [own_endd, if_neg h]
theorem own_cb : ∀ M : Fin 256, own_ct M.val 0 8 ≤ 8 := by decide +kernel
theorem own_selAll : ∀ N : Fin 9, 1 ≤ N.val → ∀ M : Fin 256, M.val < 2 ^ N.val → ∀ k : Fin 8, k.val < own_ct M.val 0 8 → own_selP N M k = true := by decide +kernel
theorem own_d1_0 : decode prog_64_method_1_code 0 = .ok (.aload_n 0, 1) := by decide +kernel
theorem own_d1_1 : decode prog_64_method_1_code 1 = .ok (.invokespecial 1, 3) := by decide +kernel
theorem own_d1_4 : decode prog_64_method_1_code 4 = .ok (.aload_n 0, 1) := by decide +kernel
theorem own_d1_5 : decode prog_64_method_1_code 5 = .ok (.iload_n 1, 1) := by decide +kernel
theorem own_d1_6 : decode prog_64_method_1_code 6 = .ok (.newarray .boolean, 2) := by decide +kernel
theorem own_d1_8 : decode prog_64_method_1_code 8 = .ok (.putfield 7, 3) := by decide +kernel
theorem own_d1_11 : decode prog_64_method_1_code 11 = .ok (.aload_n 0, 1) := by decide +kernel
theorem own_d1_12 : decode prog_64_method_1_code 12 = .ok (.iload_n 1, 1) := by decide +kernel
theorem own_d1_13 : decode prog_64_method_1_code 13 = .ok (.iconst 1, 1) := by decide +kernel
theorem own_d1_14 : decode prog_64_method_1_code 14 = .ok (.iadd, 1) := by decide +kernel
theorem own_d1_15 : decode prog_64_method_1_code 15 = .ok (.newarray .int, 2) := by decide +kernel
theorem own_d1_17 : decode prog_64_method_1_code 17 = .ok (.putfield 13, 3) := by decide +kernel
theorem own_d1_20 : decode prog_64_method_1_code 20 = .ok (.return_, 1) := by decide +kernel
def own_Q1 (Z : State) (o0 : Addr) (w_o0_members : Value) (w_o0_tree : Value) (w_o0_count : Int32) (N : Nat) (h0 : Heap) (n0 : Nat) (v : Option Value) (h : Heap) (L : List Loc) : Prop := v = none ∧ Fr n0 L ∧ Keep h0 h [o0] ∧ ∃ (b32 b46 : Addr), h0.size ≤ b32 ∧ h0.size ≤ b46 ∧ b32 ≠ b46 ∧ Exa Z h o0 "com/example/hardy_election/hardyelection/SharedMemory$EnabledSet" ∧ Fld Z h o0 "com/example/hardy_election/hardyelection/SharedMemory$EnabledSet" "members" "[Z" (.ref b32) ∧ Fld Z h o0 "com/example/hardy_election/hardyelection/SharedMemory$EnabledSet" "tree" "[I" (.ref b46) ∧ Fld Z h o0 "com/example/hardy_election/hardyelection/SharedMemory$EnabledSet" "count" "I" (.int w_o0_count) ∧ own_A Z h b32 .boolean (Int32.ofNat N) (own_bt 0) ∧ own_A Z h b46 .int (Int32.ofNat (N + 1)) (own_ft 0)
theorem own_pn_rm1 : plainName "com/example/hardy_election/hardyelection/SharedMemory$EnabledSet" = true := by first | (simp [plainName, overriddenIn]; done) | decide +kernel
theorem own_ef_rm1 (m : MethodId) (o0 : Addr) (N : Nat) : entryFrame m #[(.ref o0), (.int (Int32.ofNat N))] 2 = mkF m 0 #[.val (.ref o0), .val (.int (Int32.ofNat N))] [] := by first | (simp [entryFrame, mkF, argsToLocals, Value.category]; done) | rfl
set_option maxRecDepth 65536 in
set_option maxHeartbeats 40000000 in
theorem own_rm1 (l : Launch) (Z : State) (a0 : Array Value) (hw : ∀ d ∈ tables_1, d.before a0 Z = true) (ws : List Jvm.Cond) (o0 : Addr) (w_o0_members : Value) (w_o0_tree : Value) (w_o0_count : Int32) (N : Nat) (h0 : Heap) (n0 : Nat) (Z0 : n0 ≤ h0.size) (E_o0 : Exa Z h0 o0 "com/example/hardy_election/hardyelection/SharedMemory$EnabledSet") (F_o0_members : Fld Z h0 o0 "com/example/hardy_election/hardyelection/SharedMemory$EnabledSet" "members" "[Z" w_o0_members) (F_o0_tree : Fld Z h0 o0 "com/example/hardy_election/hardyelection/SharedMemory$EnabledSet" "tree" "[I" w_o0_tree) (F_o0_count : Fld Z h0 o0 "com/example/hardy_election/hardyelection/SharedMemory$EnabledSet" "count" "I" (.int w_o0_count)) (hN : 1 ≤ N ∧ N ≤ 8) (g_o0 : n0 ≤ o0) :
    MetFree l (⟨"com/example/hardy_election/hardyelection/SharedMemory$EnabledSet", "<init>", "(I)V"⟩ : MethodName) (head1 (Jvm.Cond.code (⟨"com/example/hardy_election/hardyelection/SharedMemory$EnabledSet", "<init>", "(I)V"⟩ : MethodName) prog_64_method_1_code 2 none :: ws) ({ frames := 1, cells := 2, slots := 17, locals := 12 } : Room)) (fun a U => a = #[(.ref o0), (.int (Int32.ofNat N))] ∧ Z.Warmed39 U.vm ∧ U.heap = h0) (fun _ _ _ _ _ => True) (fun _ U o U' => ∃ v L, o = .returned v ∧ own_Q1 Z o0 w_o0_members w_o0_tree w_o0_count N h0 n0 v U'.heap L ∧ FrameEnd U o U' L ({ frames := 1, cells := 2, slots := 17, locals := 12 } : Room).cells ({ frames := 1, cells := 2, slots := 17, locals := 12 } : Room).slots) := by
  refine MetFree.of_bodySF (plainFor_of_name own_pn_rm1) hisR ?_
  intro p e s m args below meth c s₁ Bd hml0 hP hK
  obtain ⟨rfl, hZ, hh⟩ := hP
  have hx := Bd.exec
  have hby := Bd.bytes
  have hml : c.maxLocals = 2 := hml0
  have hown : s.vm.findClass "com/example/hardy_election/hardyelection/SharedMemory$EnabledSet" = some m.cls := findClass_of_methodNamed Bd.named
  have hnm := (name_of_methodNamed Bd.named Bd.method).1
  have X0 : Stand p l e ({ frames := 1, cells := 2, slots := 17, locals := 12 } : Room) s m #[(.ref o0), (.int (Int32.ofNat N))] below meth c s₁ [] 0 0 := Stand.of_body Bd
  have e0 : s₁.heap = h0 := by rw [← hh, Bd.state]; rfl
  have N0 := Fr.nil n0
  show own_End p e below s (own_Q1 Z o0 w_o0_members w_o0_tree w_o0_count N h0 n0) ({ frames := 1, cells := 2, slots := 17, locals := 12 } : Room).cells ({ frames := 1, cells := 2, slots := 17, locals := 12 } : Room).slots (s₁.setTop (entryFrame m #[(.ref o0), (.int (Int32.ofNat N))] 2))
  rw [own_ef_rm1]
  refine own_aloadN X0 hx (hb hby own_d1_0) rfl rfl (q := 1) rfl ?_
  obtain ⟨T31, X31, e31, st31⟩ := initO X0 hx hZ hown (hw _ (List.mem_of_getElem? (i := 6) rfl)) (hw _ (List.mem_of_getElem? (i := 7) rfl)) (hw _ (List.mem_of_getElem? (i := 8) rfl)) e0 (g := (mkF m 1 #[.val (.ref o0), .val (.int (Int32.ofNat N))] [(.ref o0)])) rfl (by rw [hml]; rfl) rfl (hb hby own_d1_1) (by decide) (W := 0) (by show 2 * 0 + _ ≤ _; exact Nat.le_of_eq rfl) (by decide)
  refine own_back st31 ?_
  show own_End p e below s _ _ _ (T31.setTop (mkF m 4 #[.val (.ref o0), .val (.int (Int32.ofNat N))] []))
  refine own_aloadN X31 hx (hb hby own_d1_4) rfl rfl (q := 5) rfl ?_
  refine own_iloadN X31 hx (hb hby own_d1_5) rfl (q := 6) rfl ?_
  obtain ⟨T32, h32, k32, X32, e32, E32, A32, st32⟩ := newP X31 hx hZ (hw _ (List.mem_of_getElem? (i := 9) rfl)) e31 (g := (mkF m 6 #[.val (.ref o0), .val (.int (Int32.ofNat N))] [(.int (Int32.ofNat N)), (.ref o0)])) rfl (hb hby own_d1_6) rfl (own_nneg N (by omega)) (cap := 8) (by rw [own_clamp N (by omega)]; omega) (by decide) (by decide) (by decide)
  obtain ⟨b32, g32⟩ : ∃ z, z = h0.size := ⟨_, rfl⟩
  have ne_o0_b32 : o0 ≠ b32 := Nat.ne_of_lt (Nat.lt_of_lt_of_le E_o0.lt (Nat.le_of_eq g32.symm))
  have g_b32 : n0 ≤ b32 := Nat.le_trans Z0 (Nat.le_of_eq g32.symm)
  have sz_b32 : h0.size ≤ b32 := Nat.le_trans (Keep.refl h0 [o0]).1 (Nat.le_of_eq g32.symm)
  have Z33 := Nat.le_trans Z0 E32.1
  rw [← g32] at A32 st32
  have E_o0_34 := E_o0.ext E32
  have F_o0_members_35 := F_o0_members.ext E32
  have F_o0_tree_36 := F_o0_tree.ext E32
  have F_o0_count_37 := F_o0_count.ext E32
  have Kp38 : Keep h0 _ [o0] := (Keep.refl h0 [o0]).ext E32
  have A_b32 : own_A Z h32 b32 .boolean (Int32.ofNat N) (fun _ => (0 : Int32)) := own_A.new A32 (own_nneg N (by omega)) rfl
  refine own_back st32 ?_
  show own_End p e below s _ _ _ (T32.setTop (mkF m 8 #[.val (.ref o0), .val (.int (Int32.ofNat N))] [(.ref b32), (.ref o0)]))
  obtain ⟨T39, h39, X39, e39, W39, st39⟩ := putF X32 hx hZ hown (host := "") (Or.inl (hw _ (List.mem_of_getElem? (i := 10) rfl))) Via.refl e32 F_o0_members_35 E_o0_34 (Or.inr ⟨(hw _ (List.mem_of_getElem? (i := 11) rfl)), rfl, hnm⟩) (hw _ (List.mem_of_getElem? (i := 1) rfl)) (ty := (.array .boolean)) (by decide) rfl rfl (g := (mkF m 8 #[.val (.ref o0), .val (.int (Int32.ofNat N))] [(.ref b32), (.ref o0)])) rfl rfl (hb hby own_d1_8)
  have F_o0_members_39 := F_o0_members_35.same W39
  have E_o0_40 := E_o0_34.wr W39
  have F_o0_tree_41 := F_o0_tree_36.other W39 (Or.inr (slot_ne (Or.inr (hw _ (List.mem_of_getElem? (i := 14) rfl))) (Or.inr (hw _ (List.mem_of_getElem? (i := 11) rfl))) (by decide) (t := (.array .int)) (t' := (.array .boolean)) (by decide) (by decide)))
  have F_o0_count_42 := F_o0_count_37.other W39 (Or.inr (slot_ne (Or.inl (hw _ (List.mem_of_getElem? (i := 21) rfl))) (Or.inr (hw _ (List.mem_of_getElem? (i := 11) rfl))) (by decide) (t := .int) (t' := (.array .boolean)) (by decide) (by decide)))
  have A_b32_43 := A_b32.other W39 (Ne.symm ne_o0_b32)
  have Kp44 : Keep h0 _ [o0] := Kp38.wr W39 (Or.inl (List.mem_of_getElem? (i := 0) rfl))
  have Z45 := Nat.le_trans Z33 (Keep.of_wr W39).1
  obtain ⟨L39, X39, N39⟩ := own_gl X39 (Fr.snoc X39 N0 g_o0)
  refine own_back st39 ?_
  show own_End p e below s _ _ _ (T39.setTop (mkF m 11 #[.val (.ref o0), .val (.int (Int32.ofNat N))] []))
  refine own_aloadN X39 hx (hb hby own_d1_11) rfl rfl (q := 12) rfl ?_
  refine own_iloadN X39 hx (hb hby own_d1_12) rfl (q := 13) rfl ?_
  refine own_iconst X39 hx (hb hby own_d1_13) (z := 1) rfl (q := 14) rfl ?_
  refine own_iadd X39 hx (hb hby own_d1_14) (q := 15) rfl ?_
  rw [own_add1]
  show own_End p e below s _ _ _ (T39.setTop (mkF m 15 #[.val (.ref o0), .val (.int (Int32.ofNat N))] [(.int (Int32.ofNat (N + 1))), (.ref o0)]))
  obtain ⟨T46, h46, k46, X46, e46, E46, A46, st46⟩ := newP X39 hx hZ (hw _ (List.mem_of_getElem? (i := 12) rfl)) e39 (g := (mkF m 15 #[.val (.ref o0), .val (.int (Int32.ofNat N))] [(.int (Int32.ofNat (N + 1))), (.ref o0)])) rfl (hb hby own_d1_15) rfl (own_nneg (N + 1) (by omega)) (cap := 9) (by rw [own_clamp (N + 1) (by omega)]; omega) (by decide) (by decide) (by decide)
  obtain ⟨b46, g46⟩ : ∃ z, z = h39.size := ⟨_, rfl⟩
  have ne_o0_b46 : o0 ≠ b46 := Nat.ne_of_lt (Nat.lt_of_lt_of_le E_o0_40.lt (Nat.le_of_eq g46.symm))
  have ne_b32_b46 : b32 ≠ b46 := Nat.ne_of_lt (Nat.lt_of_lt_of_le A_b32_43.lt (Nat.le_of_eq g46.symm))
  have g_b46 : n0 ≤ b46 := Nat.le_trans Z45 (Nat.le_of_eq g46.symm)
  have sz_b46 : h0.size ≤ b46 := Nat.le_trans Kp44.1 (Nat.le_of_eq g46.symm)
  have Z47 := Nat.le_trans Z45 E46.1
  rw [← g46] at A46 st46
  have E_o0_48 := E_o0_40.ext E46
  have F_o0_members_49 := F_o0_members_39.ext E46
  have F_o0_tree_50 := F_o0_tree_41.ext E46
  have F_o0_count_51 := F_o0_count_42.ext E46
  have A_b32_52 := A_b32_43.ext E46
  have Kp53 : Keep h0 _ [o0] := Kp44.ext E46
  have A_b46 : own_A Z h46 b46 .int (Int32.ofNat (N + 1)) (fun _ => (0 : Int32)) := own_A.new A46 (own_nneg (N + 1) (by omega)) rfl
  refine own_back st46 ?_
  show own_End p e below s _ _ _ (T46.setTop (mkF m 17 #[.val (.ref o0), .val (.int (Int32.ofNat N))] [(.ref b46), (.ref o0)]))
  obtain ⟨T54, h54, X54, e54, W54, st54⟩ := putF X46 hx hZ hown (host := "") (Or.inl (hw _ (List.mem_of_getElem? (i := 13) rfl))) Via.refl e46 F_o0_tree_50 E_o0_48 (Or.inr ⟨(hw _ (List.mem_of_getElem? (i := 14) rfl)), rfl, hnm⟩) (hw _ (List.mem_of_getElem? (i := 1) rfl)) (ty := (.array .int)) (by decide) rfl rfl (g := (mkF m 17 #[.val (.ref o0), .val (.int (Int32.ofNat N))] [(.ref b46), (.ref o0)])) rfl rfl (hb hby own_d1_17)
  have F_o0_tree_54 := F_o0_tree_50.same W54
  have E_o0_55 := E_o0_48.wr W54
  have F_o0_members_56 := F_o0_members_49.other W54 (Or.inr (slot_ne (Or.inr (hw _ (List.mem_of_getElem? (i := 11) rfl))) (Or.inr (hw _ (List.mem_of_getElem? (i := 14) rfl))) (by decide) (t := (.array .boolean)) (t' := (.array .int)) (by decide) (by decide)))
  have F_o0_count_57 := F_o0_count_51.other W54 (Or.inr (slot_ne (Or.inl (hw _ (List.mem_of_getElem? (i := 21) rfl))) (Or.inr (hw _ (List.mem_of_getElem? (i := 14) rfl))) (by decide) (t := .int) (t' := (.array .int)) (by decide) (by decide)))
  have A_b32_58 := A_b32_52.other W54 (Ne.symm ne_o0_b32)
  have A_b46_59 := A_b46.other W54 (Ne.symm ne_o0_b46)
  have Kp60 : Keep h0 _ [o0] := Kp53.wr W54 (Or.inl (List.mem_of_getElem? (i := 0) rfl))
  have Z61 := Nat.le_trans Z47 (Keep.of_wr W54).1
  obtain ⟨L54, X54, N54⟩ := own_gl X54 (Fr.snoc X54 N39 g_o0)
  refine own_back st54 ?_
  show own_End p e below s _ _ _ (T54.setTop (mkF m 20 #[.val (.ref o0), .val (.int (Int32.ofNat N))] []))
  have A_b32_58z : own_A Z h54 b32 .boolean (Int32.ofNat N) (own_bt 0) := own_A.congr A_b32_58 (fun j _ => (own_bt0 j).symm)
  have A_b46_59z : own_A Z h54 b46 .int (Int32.ofNat (N + 1)) (own_ft 0) := own_A.congr A_b46_59 (fun j _ => (own_ft0 j).symm)
  refine own_retV X54 hx Bd.returns Bd.notSynchronized (by decide) (by decide) (hb hby own_d1_20) ?_
  show own_Q1 Z o0 w_o0_members w_o0_tree w_o0_count N h0 n0 _ T54.heap _
  rw [e54]
  exact ⟨rfl, N54, Kp60, b32, b46, sz_b32, sz_b46, ne_b32_b46, E_o0_55, F_o0_members_56, F_o0_tree_54, F_o0_count_57, A_b32_58z, A_b46_59z⟩
theorem own_d6_0 : decode prog_64_method_3_code 0 = .ok (.aload_n 0, 1) := by decide +kernel
theorem own_d6_1 : decode prog_64_method_3_code 1 = .ok (.getfield 17, 3) := by decide +kernel
theorem own_d6_4 : decode prog_64_method_3_code 4 = .ok (.ireturn, 1) := by decide +kernel
def own_Q6 (Z : State) (o0 : Addr) (w_o0_count : Int32) (h0 : Heap) (n0 : Nat) (v : Option Value) (h : Heap) (L : List Loc) : Prop := v = some (.int w_o0_count) ∧ Fr n0 L ∧ h = h0
theorem own_pn_rm6 : plainName "com/example/hardy_election/hardyelection/SharedMemory$EnabledSet" = true := by first | (simp [plainName, overriddenIn]; done) | decide +kernel
theorem own_ef_rm6 (m : MethodId) (o0 : Addr) : entryFrame m #[(.ref o0)] 1 = mkF m 0 #[.val (.ref o0)] [] := by first | (simp [entryFrame, mkF, argsToLocals, Value.category]; done) | rfl
set_option maxRecDepth 65536 in
set_option maxHeartbeats 40000000 in
theorem own_rm6 (l : Launch) (Z : State) (a0 : Array Value) (hw : ∀ d ∈ tables_1, d.before a0 Z = true) (ws : List Jvm.Cond) (o0 : Addr) (w_o0_count : Int32) (h0 : Heap) (n0 : Nat) (Z0 : n0 ≤ h0.size) (E_o0 : Exa Z h0 o0 "com/example/hardy_election/hardyelection/SharedMemory$EnabledSet") (F_o0_count : Fld Z h0 o0 "com/example/hardy_election/hardyelection/SharedMemory$EnabledSet" "count" "I" (.int w_o0_count)) :
    MetFree l (⟨"com/example/hardy_election/hardyelection/SharedMemory$EnabledSet", "count", "()I"⟩ : MethodName) (head1 (Jvm.Cond.code (⟨"com/example/hardy_election/hardyelection/SharedMemory$EnabledSet", "count", "()I"⟩ : MethodName) prog_64_method_3_code 1 (some .int) :: ws) ({ frames := 0, cells := 0, slots := 0, locals := 0 } : Room)) (fun a U => a = #[(.ref o0)] ∧ Z.Warmed39 U.vm ∧ U.heap = h0) (fun _ _ _ _ _ => True) (fun _ U o U' => ∃ v L, o = .returned v ∧ own_Q6 Z o0 w_o0_count h0 n0 v U'.heap L ∧ FrameEnd U o U' L ({ frames := 0, cells := 0, slots := 0, locals := 0 } : Room).cells ({ frames := 0, cells := 0, slots := 0, locals := 0 } : Room).slots) := by
  refine MetFree.of_bodySF (plainFor_of_name own_pn_rm6) hisR ?_
  intro p e s m args below meth c s₁ Bd hml0 hP hK
  obtain ⟨rfl, hZ, hh⟩ := hP
  have hx := Bd.exec
  have hby := Bd.bytes
  have hml : c.maxLocals = 1 := hml0
  have hown : s.vm.findClass "com/example/hardy_election/hardyelection/SharedMemory$EnabledSet" = some m.cls := findClass_of_methodNamed Bd.named
  have hnm := (name_of_methodNamed Bd.named Bd.method).1
  have X0 : Stand p l e ({ frames := 0, cells := 0, slots := 0, locals := 0 } : Room) s m #[(.ref o0)] below meth c s₁ [] 0 0 := Stand.of_body Bd
  have e0 : s₁.heap = h0 := by rw [← hh, Bd.state]; rfl
  have N0 := Fr.nil n0
  show own_End p e below s (own_Q6 Z o0 w_o0_count h0 n0) ({ frames := 0, cells := 0, slots := 0, locals := 0 } : Room).cells ({ frames := 0, cells := 0, slots := 0, locals := 0 } : Room).slots (s₁.setTop (entryFrame m #[(.ref o0)] 1))
  rw [own_ef_rm6]
  refine own_aloadN X0 hx (hb hby own_d6_0) rfl rfl (q := 1) rfl ?_
  obtain ⟨T63, X63, e63, st63⟩ := getF X0 hx hZ hown (host := "") (Or.inl (hw _ (List.mem_of_getElem? (i := 20) rfl))) Via.refl e0 F_o0_count (g := (mkF m 1 #[.val (.ref o0)] [(.ref o0)])) rfl rfl (hb hby own_d6_1)
  refine own_back st63 ?_
  show own_End p e below s _ _ _ (T63.setTop (mkF m 4 #[.val (.ref o0)] [(.int w_o0_count)]))
  refine own_retI X63 hx Bd.returns Bd.notSynchronized (by decide) (by decide) (hb hby own_d6_4) ?_
  show own_Q6 Z o0 w_o0_count h0 n0 _ T63.heap _
  exact ⟨rfl, N0, e63⟩
theorem own_d3_39 : decode prog_64_method_4_code 39 = .ok (.iload_n 3, 1) := by decide +kernel
theorem own_d3_40 : decode prog_64_method_4_code 40 = .ok (.aload_n 0, 1) := by decide +kernel
theorem own_d3_41 : decode prog_64_method_4_code 41 = .ok (.getfield 13, 3) := by decide +kernel
theorem own_d3_44 : decode prog_64_method_4_code 44 = .ok (.arraylength, 1) := by decide +kernel
theorem own_d3_45 : decode prog_64_method_4_code 45 = .ok (.if_icmp .ge 31, 3) := by decide +kernel
theorem own_d3_48 : decode prog_64_method_4_code 48 = .ok (.aload_n 0, 1) := by decide +kernel
theorem own_d3_49 : decode prog_64_method_4_code 49 = .ok (.getfield 13, 3) := by decide +kernel
theorem own_d3_52 : decode prog_64_method_4_code 52 = .ok (.iload_n 3, 1) := by decide +kernel
theorem own_d3_53 : decode prog_64_method_4_code 53 = .ok (.dup2, 1) := by decide +kernel
theorem own_d3_54 : decode prog_64_method_4_code 54 = .ok (.iaload, 1) := by decide +kernel
theorem own_d3_55 : decode prog_64_method_4_code 55 = .ok (.iload_n 2, 1) := by decide +kernel
theorem own_d3_56 : decode prog_64_method_4_code 56 = .ok (.ifCond .eq 7, 3) := by decide +kernel
theorem own_d3_63 : decode prog_64_method_4_code 63 = .ok (.iconst (-1), 1) := by decide +kernel
theorem own_d3_59 : decode prog_64_method_4_code 59 = .ok (.iconst 1, 1) := by decide +kernel
theorem own_d3_60 : decode prog_64_method_4_code 60 = .ok (.goto 4, 3) := by decide +kernel
def own_M3_56 (v : Bool) : Int32 := (if (own_fl v) = (0 : Int32) then (-1 : Int32) else (1 : Int32))
theorem own_d3_64 : decode prog_64_method_4_code 64 = .ok (.iadd, 1) := by decide +kernel
theorem own_d3_65 : decode prog_64_method_4_code 65 = .ok (.iastore, 1) := by decide +kernel
theorem own_d3_66 : decode prog_64_method_4_code 66 = .ok (.iload_n 3, 1) := by decide +kernel
theorem own_d3_67 : decode prog_64_method_4_code 67 = .ok (.iload_n 3, 1) := by decide +kernel
theorem own_d3_68 : decode prog_64_method_4_code 68 = .ok (.iload_n 3, 1) := by decide +kernel
theorem own_d3_69 : decode prog_64_method_4_code 69 = .ok (.ineg, 1) := by decide +kernel
theorem own_d3_70 : decode prog_64_method_4_code 70 = .ok (.iand, 1) := by decide +kernel
theorem own_d3_71 : decode prog_64_method_4_code 71 = .ok (.iadd, 1) := by decide +kernel
theorem own_d3_72 : decode prog_64_method_4_code 72 = .ok (.istore_n 3, 1) := by decide +kernel
theorem own_d3_73 : decode prog_64_method_4_code 73 = .ok (.goto (-34), 3) := by decide +kernel
set_option maxRecDepth 65536 in
set_option maxHeartbeats 40000000 in
theorem own_lp3 {p : Program} {l : Launch} {e : Env} {R : Room} {s : State} {m : MethodId} {args : Array Value} {below : List Frame} {meth : Method} {c : Code} {Z : State} {a0 : Array Value} {Q : Option Value → Heap → List Loc → Prop} {K N : Nat} {cells slots : Nat} (hw : ∀ d ∈ tables_1, d.before a0 Z = true) (hx : p.tables.exec = Jvm.exec) (hZ : Z.Warmed39 s.vm) (hby : c.code = prog_64_method_4_code) (hml : c.maxLocals = 4) (hown : s.vm.findClass "com/example/hardy_election/hardyelection/SharedMemory$EnabledSet" = some m.cls) (o0 wm wt : Addr) (p1 : Int32) (v : Bool) (n0 : Nat) (n1 nm cv : Int32) (fm : Nat → Int32) (h00 : Heap) (g_wt : n0 ≤ wt) (ne1 : o0 ≠ wt) (ne2 : wm ≠ wt) :
    ∀ (k : Nat) (i : Int32) (f : Nat → Int32) (T0 : State) (h0 : Heap) (locs : List Loc), own_ends n1 k i = true → Stand p l e R s m args below meth c T0 locs cells slots → T0.heap = h0 → Fr n0 locs → n0 ≤ h0.size → Keep h00 h0 [o0, wm, wt] → Exa Z h0 o0 "com/example/hardy_election/hardyelection/SharedMemory$EnabledSet" → Fld Z h0 o0 "com/example/hardy_election/hardyelection/SharedMemory$EnabledSet" "members" "[Z" (.ref wm) → Fld Z h0 o0 "com/example/hardy_election/hardyelection/SharedMemory$EnabledSet" "tree" "[I" (.ref wt) → Fld Z h0 o0 "com/example/hardy_election/hardyelection/SharedMemory$EnabledSet" "count" "I" (.int cv) → own_A Z h0 wm .boolean nm fm → own_A Z h0 wt .int n1 f →
      (∀ (T' : State) (h' : Heap) (locs' : List Loc) (i' : Int32), Stand p l e R s m args below meth c T' locs' cells slots → T'.heap = h' → Fr n0 locs' → n0 ≤ h'.size → Keep h00 h' [o0, wm, wt] → Exa Z h' o0 "com/example/hardy_election/hardyelection/SharedMemory$EnabledSet" → Fld Z h' o0 "com/example/hardy_election/hardyelection/SharedMemory$EnabledSet" "members" "[Z" (.ref wm) → Fld Z h' o0 "com/example/hardy_election/hardyelection/SharedMemory$EnabledSet" "tree" "[I" (.ref wt) → Fld Z h' o0 "com/example/hardy_election/hardyelection/SharedMemory$EnabledSet" "count" "I" (.int cv) → own_A Z h' wm .boolean nm fm → own_A Z h' wt .int n1 (own_upd n1 (own_M3_56 v) k i f) → own_End p e below s Q K N (T'.setTop (mkF m 76 #[.val (.ref o0), .val (.int p1), .val (.int (own_fl v)), .val (.int i')] []))) →
      own_End p e below s Q K N (T0.setTop (mkF m 39 #[.val (.ref o0), .val (.int p1), .val (.int (own_fl v)), .val (.int i)] [])) := by
  intro k
  induction k with
  | zero =>
    intro i f T0 h0 locs he
    exact absurd he (by simp [own_ends])
  | succ k ih =>
    intro i f T0 h0 locs he X0 e0 N0 Z0 Kp0 E_o0 F_m F_t F_c A_wm A_wt cont
    refine own_iloadN X0 hx (hb hby own_d3_39) rfl (q := 40) rfl ?_
    refine own_aloadN X0 hx (hb hby own_d3_40) rfl rfl (q := 41) rfl ?_
    obtain ⟨T65, X65, e65, st65⟩ := getF X0 hx hZ hown (host := "") (Or.inl (hw _ (List.mem_of_getElem? (i := 13) rfl))) Via.refl e0 F_t (g := (mkF m 41 #[.val (.ref o0), .val (.int p1), .val (.int (own_fl v)), .val (.int i)] [(.ref o0), (.int i)])) rfl rfl (hb hby own_d3_41)
    refine own_back st65 ?_
    show own_End p e below s _ _ _ (T65.setTop (mkF m 44 #[.val (.ref o0), .val (.int p1), .val (.int (own_fl v)), .val (.int i)] [(.ref wt), (.int i)]))
    obtain ⟨cl66, Ar66, S66, N66v, H66⟩ := id A_wt
    refine own_back (X65.arraylength hx (by rw [e65]; exact Ar66.1) (State.isArrayOf_alike hZ.alike Ar66.2.1) (g := (mkF m 44 #[.val (.ref o0), .val (.int p1), .val (.int (own_fl v)), .val (.int i)] [(.ref wt), (.int i)])) rfl rfl (hb hby own_d3_44)) ?_
    rw [len_of S66 N66v]
    show own_End p e below s _ _ _ (T65.setTop (mkF m 45 #[.val (.ref o0), .val (.int p1), .val (.int (own_fl v)), .val (.int i)] [(.int n1), (.int i)]))
    by_cases hc45_67 : i < n1
    · have he2 : ¬ i < 0 ∧ own_ends n1 k (i + (i &&& (-i))) = true := by rw [own_ends, if_pos hc45_67, Bool.and_eq_true] at he; exact ⟨own_nd he.1, he.2⟩
      refine own_icN X65 hx (hb hby own_d3_45) (tlt hc45_67).2.1 (q := 48) rfl ?_
      refine own_aloadN X65 hx (hb hby own_d3_48) rfl rfl (q := 49) rfl ?_
      obtain ⟨T68, X68, e68, st68⟩ := getF X65 hx hZ hown (host := "") (Or.inl (hw _ (List.mem_of_getElem? (i := 13) rfl))) Via.refl e65 F_t (g := (mkF m 49 #[.val (.ref o0), .val (.int p1), .val (.int (own_fl v)), .val (.int i)] [(.ref o0)])) rfl rfl (hb hby own_d3_49)
      refine own_back st68 ?_
      show own_End p e below s _ _ _ (T68.setTop (mkF m 52 #[.val (.ref o0), .val (.int p1), .val (.int (own_fl v)), .val (.int i)] [(.ref wt)]))
      refine own_iloadN X68 hx (hb hby own_d3_52) rfl (q := 53) rfl ?_
      refine own_back (fun _ k => ?_) (b := T68.setTop (mkF m 54 #[.val (.ref o0), .val (.int p1), .val (.int (own_fl v)), .val (.int i)] [(.int i), (.ref wt), (.int i), (.ref wt)])) ?_
      · jvm_step X68.here [X68.here.top, hx, (hb hby own_d3_53), Value.category]
        exact k
      obtain ⟨cl69, Ar69, S69, N69v, H69⟩ := id A_wt
      have hin69 : ¬ (i < 0 ∨ cl69.slots.size ≤ (i).toNatClampNeg) := inb_of S69 ⟨he2.1, hc45_67⟩
      refine own_back (X68.iaload hx (j := i) (v := (.int (f (i).toNatClampNeg))) (by rw [e68]; exact Ar69.1) (State.isArrayOf_alike hZ.alike Ar69.2.1) Ar69.2.2 hin69 (H69 _ (Nat.lt_of_not_le fun y => hin69 (Or.inr y))) (g := (mkF m 54 #[.val (.ref o0), .val (.int p1), .val (.int (own_fl v)), .val (.int i)] [(.int i), (.ref wt), (.int i), (.ref wt)])) rfl rfl (hb hby own_d3_54)) ?_
      show own_End p e below s _ _ _ (T68.setTop (mkF m 55 #[.val (.ref o0), .val (.int p1), .val (.int (own_fl v)), .val (.int i)] [(.int (f (i).toNatClampNeg)), (.int i), (.ref wt)]))
      refine own_iloadN X68 hx (hb hby own_d3_55) rfl (q := 56) rfl ?_
      suffices J73 : own_End p e below s Q K N (T68.setTop (mkF m 64 #[.val (.ref o0), .val (.int p1), .val (.int (own_fl v)), .val (.int i)] [(.int (own_M3_56 v)), (.int (f (i).toNatClampNeg)), (.int i), (.ref wt)])) by
        by_cases hc56_70 : (own_fl v) = (0 : Int32)
        · refine own_ifY X68 hx (hb hby own_d3_56) (teq hc56_70).1 (q := 63) (by decide) (by decide) ?_
          refine own_iconst X68 hx (hb hby own_d3_63) (z := -1) rfl (q := 64) rfl ?_
          simp only [own_M3_56, if_pos hc56_70] at J73
          exact J73
        · refine own_ifN X68 hx (hb hby own_d3_56) (feq hc56_70).1 (q := 59) rfl ?_
          refine own_iconst X68 hx (hb hby own_d3_59) (z := 1) rfl (q := 60) rfl ?_
          refine own_goto X68 hx (hb hby own_d3_60) (q := 64) (by decide) (by decide) ?_
          simp only [own_M3_56, if_neg hc56_70] at J73
          exact J73
      refine own_iadd X68 hx (hb hby own_d3_64) (q := 65) rfl ?_
      obtain ⟨cl74, Ar74, S74, N74v, H74⟩ := id A_wt
      have hin74 : ¬ (i < 0 ∨ cl74.slots.size ≤ (i).toNatClampNeg) := inb_of S74 ⟨he2.1, hc45_67⟩
      obtain ⟨T74, h74, X74, e74, W74, st74⟩ := stI X68 hx hZ e68 Ar74 (j := i) hin74 (g := (mkF m 65 #[.val (.ref o0), .val (.int p1), .val (.int (own_fl v)), .val (.int i)] [(.int ((f (i).toNatClampNeg) + (own_M3_56 v))), (.int i), (.ref wt)])) rfl rfl (hb hby own_d3_65)
      have A_wt_74 : own_A Z h74 wt .int n1 (fun j => if j = (i).toNatClampNeg then ((f (i).toNatClampNeg) + (own_M3_56 v)) else f j) := own_A.set Ar74 S74 N74v H74 hin74 W74
      have E_o0_75 := E_o0.wr W74
      have F_m_76 := F_m.other W74 (Or.inl ne1)
      have F_t_77 := F_t.other W74 (Or.inl ne1)
      have F_c_78 := F_c.other W74 (Or.inl ne1)
      have A_wm_79 := A_wm.other W74 ne2
      have Kp80 : Keep h00 _ [o0, wm, wt] := Kp0.wr W74 (Or.inl (List.mem_of_getElem? (i := 2) rfl))
      have Z81 := Nat.le_trans Z0 (Keep.of_wr W74).1
      obtain ⟨L74, X74, N74⟩ := own_gl X74 (Fr.snoc X74 N0 g_wt)
      refine own_back st74 ?_
      show own_End p e below s _ _ _ (T74.setTop (mkF m 66 #[.val (.ref o0), .val (.int p1), .val (.int (own_fl v)), .val (.int i)] []))
      refine own_iloadN X74 hx (hb hby own_d3_66) rfl (q := 67) rfl ?_
      refine own_iloadN X74 hx (hb hby own_d3_67) rfl (q := 68) rfl ?_
      refine own_iloadN X74 hx (hb hby own_d3_68) rfl (q := 69) rfl ?_
      refine own_ineg X74 hx (hb hby own_d3_69) (q := 70) rfl ?_
      refine own_iand X74 hx (hb hby own_d3_70) (q := 71) rfl ?_
      refine own_iadd X74 hx (hb hby own_d3_71) (q := 72) rfl ?_
      refine own_istoreN X74 hx (hb hby own_d3_72) (l' := #[.val (.ref o0), .val (.int p1), .val (.int (own_fl v)), .val (.int (i + (i &&& (-i))))]) rfl (q := 73) rfl ?_
      refine own_goto X74 hx (hb hby own_d3_73) (q := 39) (by decide) (by decide) ?_
      have hU : own_upd n1 (own_M3_56 v) (k + 1) i f = own_upd n1 (own_M3_56 v) k (i + (i &&& (-i))) (fun j => if j = (i).toNatClampNeg then ((f (i).toNatClampNeg) + (own_M3_56 v)) else f j) := by rw [own_upd, if_pos hc45_67]
      rw [hU] at cont
      exact ih (i + (i &&& (-i))) (fun j => if j = (i).toNatClampNeg then ((f (i).toNatClampNeg) + (own_M3_56 v)) else f j) T74 _ _ he2.2 X74 e74 N74 Z81 Kp80 E_o0_75 F_m_76 F_t_77 F_c_78 A_wm_79 A_wt_74 cont
    · refine own_icY X65 hx (hb hby own_d3_45) (flt hc45_67).2.1 (q := 76) (by decide) (by decide) ?_
      have hU : own_upd n1 (own_M3_56 v) (k + 1) i f = f := by rw [own_upd, if_neg hc45_67]
      rw [hU] at cont
      exact cont T65 _ _ i X65 e65 N0 Z0 Kp0 E_o0 F_m F_t F_c A_wm A_wt
theorem own_d3_0 : decode prog_64_method_4_code 0 = .ok (.aload_n 0, 1) := by decide +kernel
theorem own_d3_1 : decode prog_64_method_4_code 1 = .ok (.getfield 7, 3) := by decide +kernel
theorem own_d3_4 : decode prog_64_method_4_code 4 = .ok (.iload_n 1, 1) := by decide +kernel
theorem own_d3_5 : decode prog_64_method_4_code 5 = .ok (.baload, 1) := by decide +kernel
theorem own_d3_6 : decode prog_64_method_4_code 6 = .ok (.iload_n 2, 1) := by decide +kernel
theorem own_d3_7 : decode prog_64_method_4_code 7 = .ok (.if_icmp .eq 69, 3) := by decide +kernel
theorem own_d3_76 : decode prog_64_method_4_code 76 = .ok (.return_, 1) := by decide +kernel
theorem own_d3_10 : decode prog_64_method_4_code 10 = .ok (.aload_n 0, 1) := by decide +kernel
theorem own_d3_11 : decode prog_64_method_4_code 11 = .ok (.getfield 7, 3) := by decide +kernel
theorem own_d3_14 : decode prog_64_method_4_code 14 = .ok (.iload_n 1, 1) := by decide +kernel
theorem own_d3_15 : decode prog_64_method_4_code 15 = .ok (.iload_n 2, 1) := by decide +kernel
theorem own_d3_16 : decode prog_64_method_4_code 16 = .ok (.bastore, 1) := by decide +kernel
theorem own_d3_17 : decode prog_64_method_4_code 17 = .ok (.aload_n 0, 1) := by decide +kernel
theorem own_d3_18 : decode prog_64_method_4_code 18 = .ok (.dup, 1) := by decide +kernel
theorem own_d3_19 : decode prog_64_method_4_code 19 = .ok (.getfield 17, 3) := by decide +kernel
theorem own_d3_22 : decode prog_64_method_4_code 22 = .ok (.iload_n 2, 1) := by decide +kernel
theorem own_d3_23 : decode prog_64_method_4_code 23 = .ok (.ifCond .eq 7, 3) := by decide +kernel
theorem own_d3_30 : decode prog_64_method_4_code 30 = .ok (.iconst (-1), 1) := by decide +kernel
theorem own_d3_26 : decode prog_64_method_4_code 26 = .ok (.iconst 1, 1) := by decide +kernel
theorem own_d3_27 : decode prog_64_method_4_code 27 = .ok (.goto 4, 3) := by decide +kernel
def own_M3_23 (bv : Bool) : Int32 := (if (own_fl bv) = (0 : Int32) then (-1 : Int32) else (1 : Int32))
theorem own_d3_31 : decode prog_64_method_4_code 31 = .ok (.iadd, 1) := by decide +kernel
theorem own_d3_32 : decode prog_64_method_4_code 32 = .ok (.putfield 17, 3) := by decide +kernel
theorem own_d3_35 : decode prog_64_method_4_code 35 = .ok (.iload_n 1, 1) := by decide +kernel
theorem own_d3_36 : decode prog_64_method_4_code 36 = .ok (.iconst 1, 1) := by decide +kernel
theorem own_d3_37 : decode prog_64_method_4_code 37 = .ok (.iadd, 1) := by decide +kernel
theorem own_d3_38 : decode prog_64_method_4_code 38 = .ok (.istore_n 3, 1) := by decide +kernel
def own_Q3 (Z : State) (o0 : Addr) (w_o0_members : Addr) (w_o0_tree : Addr) (N : Nat) (M : Nat) (ix : Nat) (bv : Bool) (h0 : Heap) (n0 : Nat) (v : Option Value) (h : Heap) (L : List Loc) : Prop := v = none ∧ Fr n0 L ∧ Keep h0 h [o0, w_o0_members, w_o0_tree] ∧ Exa Z h o0 "com/example/hardy_election/hardyelection/SharedMemory$EnabledSet" ∧ Fld Z h o0 "com/example/hardy_election/hardyelection/SharedMemory$EnabledSet" "members" "[Z" (.ref w_o0_members) ∧ Fld Z h o0 "com/example/hardy_election/hardyelection/SharedMemory$EnabledSet" "tree" "[I" (.ref w_o0_tree) ∧ Fld Z h o0 "com/example/hardy_election/hardyelection/SharedMemory$EnabledSet" "count" "I" (.int (own_fc (own_sM M ix bv))) ∧ own_A Z h w_o0_members .boolean (Int32.ofNat N) (own_bt (own_sM M ix bv)) ∧ own_A Z h w_o0_tree .int (Int32.ofNat (N + 1)) (own_ft (own_sM M ix bv))
theorem own_pn_rm3 : plainName "com/example/hardy_election/hardyelection/SharedMemory$EnabledSet" = true := by first | (simp [plainName, overriddenIn]; done) | decide +kernel
theorem own_ef_rm3 (m : MethodId) (o0 : Addr) (ix : Nat) (bv : Bool) : entryFrame m #[(.ref o0), (.int (Int32.ofNat ix)), (.int (own_fl bv))] 4 = mkF m 0 #[.val (.ref o0), .val (.int (Int32.ofNat ix)), .val (.int (own_fl bv)), .unset] [] := by first | (simp [entryFrame, mkF, argsToLocals, Value.category]; done) | rfl
set_option maxRecDepth 65536 in
set_option maxHeartbeats 40000000 in
theorem own_rm3 (l : Launch) (Z : State) (a0 : Array Value) (hw : ∀ d ∈ tables_1, d.before a0 Z = true) (ws : List Jvm.Cond) (o0 : Addr) (w_o0_members : Addr) (w_o0_tree : Addr) (N : Nat) (M : Nat) (ix : Nat) (bv : Bool) (h0 : Heap) (n0 : Nat) (Z0 : n0 ≤ h0.size) (E_o0 : Exa Z h0 o0 "com/example/hardy_election/hardyelection/SharedMemory$EnabledSet") (F_o0_members : Fld Z h0 o0 "com/example/hardy_election/hardyelection/SharedMemory$EnabledSet" "members" "[Z" (.ref w_o0_members)) (F_o0_tree : Fld Z h0 o0 "com/example/hardy_election/hardyelection/SharedMemory$EnabledSet" "tree" "[I" (.ref w_o0_tree)) (F_o0_count : Fld Z h0 o0 "com/example/hardy_election/hardyelection/SharedMemory$EnabledSet" "count" "I" (.int (own_fc M))) (A_w_o0_members : own_A Z h0 w_o0_members .boolean (Int32.ofNat N) (own_bt M)) (A_w_o0_tree : own_A Z h0 w_o0_tree .int (Int32.ofNat (N + 1)) (own_ft M)) (ne_o0_w_o0_members : o0 ≠ w_o0_members) (ne_o0_w_o0_tree : o0 ≠ w_o0_tree) (ne_w_o0_members_w_o0_tree : w_o0_members ≠ w_o0_tree) (hN : 1 ≤ N ∧ N ≤ 8) (hM : M < 2 ^ N) (hxN : ix < N) (g_o0 : n0 ≤ o0) (g_w_o0_members : n0 ≤ w_o0_members) (g_w_o0_tree : n0 ≤ w_o0_tree) :
    MetFree l (⟨"com/example/hardy_election/hardyelection/SharedMemory$EnabledSet", "set", "(IZ)V"⟩ : MethodName) (head1 (Jvm.Cond.code (⟨"com/example/hardy_election/hardyelection/SharedMemory$EnabledSet", "set", "(IZ)V"⟩ : MethodName) prog_64_method_4_code 4 none :: ws) ({ frames := 0, cells := 0, slots := 0, locals := 0 } : Room)) (fun a U => a = #[(.ref o0), (.int (Int32.ofNat ix)), (.int (own_fl bv))] ∧ Z.Warmed39 U.vm ∧ U.heap = h0) (fun _ _ _ _ _ => True) (fun _ U o U' => ∃ v L, o = .returned v ∧ own_Q3 Z o0 w_o0_members w_o0_tree N M ix bv h0 n0 v U'.heap L ∧ FrameEnd U o U' L ({ frames := 0, cells := 0, slots := 0, locals := 0 } : Room).cells ({ frames := 0, cells := 0, slots := 0, locals := 0 } : Room).slots) := by
  refine MetFree.of_bodySF (plainFor_of_name own_pn_rm3) hisR ?_
  intro p e s m args below meth c s₁ Bd hml0 hP hK
  obtain ⟨rfl, hZ, hh⟩ := hP
  have hx := Bd.exec
  have hby := Bd.bytes
  have hml : c.maxLocals = 4 := hml0
  have hown : s.vm.findClass "com/example/hardy_election/hardyelection/SharedMemory$EnabledSet" = some m.cls := findClass_of_methodNamed Bd.named
  have hnm := (name_of_methodNamed Bd.named Bd.method).1
  have X0 : Stand p l e ({ frames := 0, cells := 0, slots := 0, locals := 0 } : Room) s m #[(.ref o0), (.int (Int32.ofNat ix)), (.int (own_fl bv))] below meth c s₁ [] 0 0 := Stand.of_body Bd
  have e0 : s₁.heap = h0 := by rw [← hh, Bd.state]; rfl
  have N0 := Fr.nil n0
  show own_End p e below s (own_Q3 Z o0 w_o0_members w_o0_tree N M ix bv h0 n0) ({ frames := 0, cells := 0, slots := 0, locals := 0 } : Room).cells ({ frames := 0, cells := 0, slots := 0, locals := 0 } : Room).slots (s₁.setTop (entryFrame m #[(.ref o0), (.int (Int32.ofNat ix)), (.int (own_fl bv))] 4))
  rw [own_ef_rm3]
  refine own_aloadN X0 hx (hb hby own_d3_0) rfl rfl (q := 1) rfl ?_
  obtain ⟨T84, X84, e84, st84⟩ := getF X0 hx hZ hown (host := "") (Or.inl (hw _ (List.mem_of_getElem? (i := 10) rfl))) Via.refl e0 F_o0_members (g := (mkF m 1 #[.val (.ref o0), .val (.int (Int32.ofNat ix)), .val (.int (own_fl bv)), .unset] [(.ref o0)])) rfl rfl (hb hby own_d3_1)
  refine own_back st84 ?_
  show own_End p e below s _ _ _ (T84.setTop (mkF m 4 #[.val (.ref o0), .val (.int (Int32.ofNat ix)), .val (.int (own_fl bv)), .unset] [(.ref w_o0_members)]))
  refine own_iloadN X84 hx (hb hby own_d3_4) rfl (q := 5) rfl ?_
  obtain ⟨cl85, Ar85, S85, N85v, H85⟩ := id A_w_o0_members
  have hin85 : ¬ ((Int32.ofNat ix) < 0 ∨ cl85.slots.size ≤ ((Int32.ofNat ix)).toNatClampNeg) := inb_of S85 ⟨own_nneg ix (by omega), (own_ltN ix N (by omega) (by omega)).mpr hxN⟩
  refine own_back (X84.baloadBooleans hx (j := (Int32.ofNat ix)) (v := (.int ((own_bt M) ((Int32.ofNat ix)).toNatClampNeg))) (by rw [e84]; exact Ar85.1) (State.isArrayOf_alike hZ.alike Ar85.2.1) Ar85.2.2 hin85 (H85 _ (Nat.lt_of_not_le fun y => hin85 (Or.inr y))) (g := (mkF m 5 #[.val (.ref o0), .val (.int (Int32.ofNat ix)), .val (.int (own_fl bv)), .unset] [(.int (Int32.ofNat ix)), (.ref w_o0_members)])) rfl rfl (hb hby own_d3_5)) ?_
  show own_End p e below s _ _ _ (T84.setTop (mkF m 6 #[.val (.ref o0), .val (.int (Int32.ofNat ix)), .val (.int (own_fl bv)), .unset] [(.int ((own_bt M) ((Int32.ofNat ix)).toNatClampNeg))]))
  rw [own_clamp ix (by omega)]
  show own_End p e below s _ _ _ (T84.setTop (mkF m 6 #[.val (.ref o0), .val (.int (Int32.ofNat ix)), .val (.int (own_fl bv)), .unset] [(.int (own_bt M ix))]))
  refine own_iloadN X84 hx (hb hby own_d3_6) rfl (q := 7) rfl ?_
  by_cases hc7_86 : (own_bt M ix) = (own_fl bv)
  · refine own_icY X84 hx (hb hby own_d3_7) (teq hc7_86).1 (q := 76) (by decide) (by decide) ?_
    have hs : (own_sM M ix bv) = M := own_same ⟨M, own_p8 hN hM⟩ ⟨ix, by omega⟩ bv hc7_86
    have F_o0_countz : Fld Z h0 o0 "com/example/hardy_election/hardyelection/SharedMemory$EnabledSet" "count" "I" (.int (own_fc (own_sM M ix bv))) := by rw [hs]; exact F_o0_count
    have A_w_o0_membersz : own_A Z h0 w_o0_members .boolean (Int32.ofNat N) (own_bt (own_sM M ix bv)) := by rw [hs]; exact A_w_o0_members
    have A_w_o0_treez : own_A Z h0 w_o0_tree .int (Int32.ofNat (N + 1)) (own_ft (own_sM M ix bv)) := by rw [hs]; exact A_w_o0_tree
    refine own_retV X84 hx Bd.returns Bd.notSynchronized (by decide) (by decide) (hb hby own_d3_76) ?_
    show own_Q3 Z o0 w_o0_members w_o0_tree N M ix bv h0 n0 _ T84.heap _
    rw [e84]
    exact ⟨rfl, N0, (Keep.refl h0 [o0, w_o0_members, w_o0_tree]), E_o0, F_o0_members, F_o0_tree, F_o0_countz, A_w_o0_membersz, A_w_o0_treez⟩
  · refine own_icN X84 hx (hb hby own_d3_7) (feq hc7_86).1 (q := 10) rfl ?_
    refine own_aloadN X84 hx (hb hby own_d3_10) rfl rfl (q := 11) rfl ?_
    obtain ⟨T88, X88, e88, st88⟩ := getF X84 hx hZ hown (host := "") (Or.inl (hw _ (List.mem_of_getElem? (i := 10) rfl))) Via.refl e84 F_o0_members (g := (mkF m 11 #[.val (.ref o0), .val (.int (Int32.ofNat ix)), .val (.int (own_fl bv)), .unset] [(.ref o0)])) rfl rfl (hb hby own_d3_11)
    refine own_back st88 ?_
    show own_End p e below s _ _ _ (T88.setTop (mkF m 14 #[.val (.ref o0), .val (.int (Int32.ofNat ix)), .val (.int (own_fl bv)), .unset] [(.ref w_o0_members)]))
    refine own_iloadN X88 hx (hb hby own_d3_14) rfl (q := 15) rfl ?_
    refine own_iloadN X88 hx (hb hby own_d3_15) rfl (q := 16) rfl ?_
    obtain ⟨cl89, Ar89, S89, N89v, H89⟩ := id A_w_o0_members
    have hin89 : ¬ ((Int32.ofNat ix) < 0 ∨ cl89.slots.size ≤ ((Int32.ofNat ix)).toNatClampNeg) := inb_of S89 ⟨own_nneg ix (by omega), (own_ltN ix N (by omega) (by omega)).mpr hxN⟩
    obtain ⟨T89, h89, X89, e89, W89, st89⟩ := stZ X88 hx hZ e88 Ar89 (j := (Int32.ofNat ix)) hin89 (g := (mkF m 16 #[.val (.ref o0), .val (.int (Int32.ofNat ix)), .val (.int (own_fl bv)), .unset] [(.int (own_fl bv)), (.int (Int32.ofNat ix)), (.ref w_o0_members)])) rfl rfl (hb hby own_d3_16)
    have A_w_o0_members_89 : own_A Z h89 w_o0_members .boolean (Int32.ofNat N) (fun j => if j = ((Int32.ofNat ix)).toNatClampNeg then ((own_fl bv) &&& 1) else (own_bt M) j) := own_A.set Ar89 S89 N89v H89 hin89 W89
    have E_o0_90 := E_o0.wr W89
    have F_o0_members_91 := F_o0_members.other W89 (Or.inl ne_o0_w_o0_members)
    have F_o0_tree_92 := F_o0_tree.other W89 (Or.inl ne_o0_w_o0_members)
    have F_o0_count_93 := F_o0_count.other W89 (Or.inl ne_o0_w_o0_members)
    have A_w_o0_tree_94 := A_w_o0_tree.other W89 (Ne.symm ne_w_o0_members_w_o0_tree)
    have Kp95 : Keep h0 _ [o0, w_o0_members, w_o0_tree] := (Keep.refl h0 [o0, w_o0_members, w_o0_tree]).wr W89 (Or.inl (List.mem_of_getElem? (i := 1) rfl))
    have Z96 := Nat.le_trans Z0 (Keep.of_wr W89).1
    obtain ⟨L89, X89, N89⟩ := own_gl X89 (Fr.snoc X89 N0 g_w_o0_members)
    refine own_back st89 ?_
    show own_End p e below s _ _ _ (T89.setTop (mkF m 17 #[.val (.ref o0), .val (.int (Int32.ofNat ix)), .val (.int (own_fl bv)), .unset] []))
    have A_mem2 : own_A Z h89 w_o0_members .boolean (Int32.ofNat N) (own_bt (own_sM M ix bv)) := own_A.congr A_w_o0_members_89 (fun j hj => by rw [own_clamp N (by omega)] at hj; have q := own_mem ⟨M, own_p8 hN hM⟩ ⟨ix, by omega⟩ bv ⟨j, by omega⟩; simp only [own_clamp ix (by omega)]; exact q)
    refine own_aloadN X89 hx (hb hby own_d3_17) rfl rfl (q := 18) rfl ?_
    refine own_dup X89 hx (hb hby own_d3_18) rfl (q := 19) rfl ?_
    obtain ⟨T97, X97, e97, st97⟩ := getF X89 hx hZ hown (host := "") (Or.inl (hw _ (List.mem_of_getElem? (i := 20) rfl))) Via.refl e89 F_o0_count_93 (g := (mkF m 19 #[.val (.ref o0), .val (.int (Int32.ofNat ix)), .val (.int (own_fl bv)), .unset] [(.ref o0), (.ref o0)])) rfl rfl (hb hby own_d3_19)
    refine own_back st97 ?_
    show own_End p e below s _ _ _ (T97.setTop (mkF m 22 #[.val (.ref o0), .val (.int (Int32.ofNat ix)), .val (.int (own_fl bv)), .unset] [(.int (own_fc M)), (.ref o0)]))
    refine own_iloadN X97 hx (hb hby own_d3_22) rfl (q := 23) rfl ?_
    suffices J101 : own_End p e below s (own_Q3 Z o0 w_o0_members w_o0_tree N M ix bv h0 n0) ({ frames := 0, cells := 0, slots := 0, locals := 0 } : Room).cells ({ frames := 0, cells := 0, slots := 0, locals := 0 } : Room).slots (T97.setTop (mkF m 31 #[.val (.ref o0), .val (.int (Int32.ofNat ix)), .val (.int (own_fl bv)), .unset] [(.int (own_M3_23 bv)), (.int (own_fc M)), (.ref o0)])) by
      by_cases hc23_98 : (own_fl bv) = (0 : Int32)
      · refine own_ifY X97 hx (hb hby own_d3_23) (teq hc23_98).1 (q := 30) (by decide) (by decide) ?_
        refine own_iconst X97 hx (hb hby own_d3_30) (z := -1) rfl (q := 31) rfl ?_
        simp only [own_M3_23, if_pos hc23_98] at J101
        exact J101
      · refine own_ifN X97 hx (hb hby own_d3_23) (feq hc23_98).1 (q := 26) rfl ?_
        refine own_iconst X97 hx (hb hby own_d3_26) (z := 1) rfl (q := 27) rfl ?_
        refine own_goto X97 hx (hb hby own_d3_27) (q := 31) (by decide) (by decide) ?_
        simp only [own_M3_23, if_neg hc23_98] at J101
        exact J101
    refine own_iadd X97 hx (hb hby own_d3_31) (q := 32) rfl ?_
    obtain ⟨T102, h102, X102, e102, W102, st102⟩ := putF X97 hx hZ hown (host := "") (Or.inl (hw _ (List.mem_of_getElem? (i := 20) rfl))) Via.refl e97 F_o0_count_93 E_o0_90 (Or.inl (hw _ (List.mem_of_getElem? (i := 21) rfl))) (hw _ (List.mem_of_getElem? (i := 1) rfl)) (ty := .int) (by decide) rfl rfl (g := (mkF m 32 #[.val (.ref o0), .val (.int (Int32.ofNat ix)), .val (.int (own_fl bv)), .unset] [(.int ((own_fc M) + (own_M3_23 bv))), (.ref o0)])) rfl rfl (hb hby own_d3_32)
    have F_o0_count_102 := F_o0_count_93.same W102
    have E_o0_103 := E_o0_90.wr W102
    have F_o0_members_104 := F_o0_members_91.other W102 (Or.inr (slot_ne (Or.inr (hw _ (List.mem_of_getElem? (i := 11) rfl))) (Or.inl (hw _ (List.mem_of_getElem? (i := 21) rfl))) (by decide) (t := (.array .boolean)) (t' := .int) (by decide) (by decide)))
    have F_o0_tree_105 := F_o0_tree_92.other W102 (Or.inr (slot_ne (Or.inr (hw _ (List.mem_of_getElem? (i := 14) rfl))) (Or.inl (hw _ (List.mem_of_getElem? (i := 21) rfl))) (by decide) (t := (.array .int)) (t' := .int) (by decide) (by decide)))
    have A_mem2_106 := A_mem2.other W102 (Ne.symm ne_o0_w_o0_members)
    have A_w_o0_tree_107 := A_w_o0_tree_94.other W102 (Ne.symm ne_o0_w_o0_tree)
    have Kp108 : Keep h0 _ [o0, w_o0_members, w_o0_tree] := Kp95.wr W102 (Or.inl (List.mem_of_getElem? (i := 0) rfl))
    have Z109 := Nat.le_trans Z96 (Keep.of_wr W102).1
    obtain ⟨L102, X102, N102⟩ := own_gl X102 (Fr.snoc X102 N89 g_o0)
    refine own_back st102 ?_
    show own_End p e below s _ _ _ (T102.setTop (mkF m 35 #[.val (.ref o0), .val (.int (Int32.ofNat ix)), .val (.int (own_fl bv)), .unset] []))
    have hdl : own_M3_56 bv = own_dl bv := by cases bv <;> rfl
    have hdl2 : own_M3_23 bv = own_dl bv := by cases bv <;> rfl
    rw [hdl2, own_cnt ⟨M, own_p8 hN hM⟩ ⟨ix, by omega⟩ bv hc7_86] at F_o0_count_102
    refine own_iloadN X102 hx (hb hby own_d3_35) rfl (q := 36) rfl ?_
    refine own_iconst X102 hx (hb hby own_d3_36) (z := 1) rfl (q := 37) rfl ?_
    refine own_iadd X102 hx (hb hby own_d3_37) (q := 38) rfl ?_
    rw [own_add1]
    show own_End p e below s _ _ _ (T102.setTop (mkF m 38 #[.val (.ref o0), .val (.int (Int32.ofNat ix)), .val (.int (own_fl bv)), .unset] [(.int (Int32.ofNat (ix + 1)))]))
    refine own_istoreN X102 hx (hb hby own_d3_38) (l' := #[.val (.ref o0), .val (.int (Int32.ofNat ix)), .val (.int (own_fl bv)), .val (.int (Int32.ofNat (ix + 1)))]) rfl (q := 39) rfl ?_
    refine own_lp3 hw hx hZ hby hml hown o0 w_o0_members w_o0_tree (Int32.ofNat ix) bv n0 (Int32.ofNat (N + 1)) (Int32.ofNat N) (own_fc (own_sM M ix bv)) (own_bt (own_sM M ix bv)) h0 g_w_o0_tree ne_o0_w_o0_tree ne_w_o0_members_w_o0_tree 8 (Int32.ofNat (ix + 1)) (own_ft M) _ _ _ (own_paths ⟨N, by omega⟩ hN.1 ⟨ix, by omega⟩ hxN).1 X102 e102 N102 Z109 Kp108 E_o0_103 F_o0_members_104 F_o0_tree_105 F_o0_count_102 A_mem2_106 A_w_o0_tree_107 ?_
    intro T110 h110 L110 i110 X110 e110 N110 Z110 Kp110 E110 Fm110 Ft110 Fc110 Am110 At110
    have At110z : own_A Z h110 w_o0_tree .int (Int32.ofNat (N + 1)) (own_ft (own_sM M ix bv)) := own_A.congr At110 (fun j hj => by rw [own_clamp (N + 1) (by omega)] at hj; rw [hdl]; exact own_updT hN hM hxN hc7_86 j hj)
    refine own_retV X110 hx Bd.returns Bd.notSynchronized (by decide) (by decide) (hb hby own_d3_76) ?_
    show own_Q3 Z o0 w_o0_members w_o0_tree N M ix bv h0 n0 _ T110.heap _
    rw [e110]
    exact ⟨rfl, N110, Kp110, E110, Fm110, Ft110, Fc110, Am110, At110z⟩
theorem own_d7_12 : decode prog_64_method_5_code 12 = .ok (.iload_n 3, 1) := by decide +kernel
theorem own_d7_13 : decode prog_64_method_5_code 13 = .ok (.ifCond .le 22, 3) := by decide +kernel
theorem own_d7_16 : decode prog_64_method_5_code 16 = .ok (.iload_n 2, 1) := by decide +kernel
theorem own_d7_17 : decode prog_64_method_5_code 17 = .ok (.aload_n 0, 1) := by decide +kernel
theorem own_d7_18 : decode prog_64_method_5_code 18 = .ok (.getfield 13, 3) := by decide +kernel
theorem own_d7_21 : decode prog_64_method_5_code 21 = .ok (.iload_n 3, 1) := by decide +kernel
theorem own_d7_22 : decode prog_64_method_5_code 22 = .ok (.iaload, 1) := by decide +kernel
theorem own_d7_23 : decode prog_64_method_5_code 23 = .ok (.iadd, 1) := by decide +kernel
theorem own_d7_24 : decode prog_64_method_5_code 24 = .ok (.istore_n 2, 1) := by decide +kernel
theorem own_d7_25 : decode prog_64_method_5_code 25 = .ok (.iload_n 3, 1) := by decide +kernel
theorem own_d7_26 : decode prog_64_method_5_code 26 = .ok (.iload_n 3, 1) := by decide +kernel
theorem own_d7_27 : decode prog_64_method_5_code 27 = .ok (.iload_n 3, 1) := by decide +kernel
theorem own_d7_28 : decode prog_64_method_5_code 28 = .ok (.ineg, 1) := by decide +kernel
theorem own_d7_29 : decode prog_64_method_5_code 29 = .ok (.iand, 1) := by decide +kernel
theorem own_d7_30 : decode prog_64_method_5_code 30 = .ok (.isub, 1) := by decide +kernel
theorem own_d7_31 : decode prog_64_method_5_code 31 = .ok (.istore_n 3, 1) := by decide +kernel
theorem own_d7_32 : decode prog_64_method_5_code 32 = .ok (.goto (-20), 3) := by decide +kernel
set_option maxRecDepth 65536 in
set_option maxHeartbeats 40000000 in
theorem own_lp7 {p : Program} {l : Launch} {e : Env} {R : Room} {s : State} {m : MethodId} {args : Array Value} {below : List Frame} {meth : Method} {c : Code} {Z : State} {a0 : Array Value} {Q : Option Value → Heap → List Loc → Prop} {K N : Nat} {cells slots : Nat} (hw : ∀ d ∈ tables_1, d.before a0 Z = true) (hx : p.tables.exec = Jvm.exec) (hZ : Z.Warmed39 s.vm) (hby : c.code = prog_64_method_5_code) (hml : c.maxLocals = 4) (hown : s.vm.findClass "com/example/hardy_election/hardyelection/SharedMemory$EnabledSet" = some m.cls) (o0 wt : Addr) (p1 n1 : Int32) (f : Nat → Int32) (h0 : Heap) (locs : List Loc) (F_t : Fld Z h0 o0 "com/example/hardy_election/hardyelection/SharedMemory$EnabledSet" "tree" "[I" (.ref wt)) (A_wt : own_A Z h0 wt .int n1 f) :
    ∀ (k : Nat) (i b : Int32) (T0 : State), own_endd n1 k i = true → Stand p l e R s m args below meth c T0 locs cells slots → T0.heap = h0 →
      (∀ (T' : State) (i' : Int32), Stand p l e R s m args below meth c T' locs cells slots → T'.heap = h0 → own_End p e below s Q K N (T'.setTop (mkF m 35 #[.val (.ref o0), .val (.int p1), .val (.int (own_sum f k i b)), .val (.int i')] []))) →
      own_End p e below s Q K N (T0.setTop (mkF m 12 #[.val (.ref o0), .val (.int p1), .val (.int b), .val (.int i)] [])) := by
  intro k
  induction k with
  | zero =>
    intro i b T0 he
    exact absurd he (by simp [own_endd])
  | succ k ih =>
    intro i b T0 he X0 e0 cont
    refine own_iloadN X0 hx (hb hby own_d7_12) rfl (q := 13) rfl ?_
    by_cases hc13_112 : (0 : Int32) < i
    · have he2 : i < n1 ∧ own_endd n1 k (i - (i &&& (-i))) = true := by rw [own_endd, if_pos hc13_112, Bool.and_eq_true, decide_eq_true_eq] at he; exact he
      refine own_ifN X0 hx (hb hby own_d7_13) (tlt hc13_112).2.2.2 (q := 16) rfl ?_
      refine own_iloadN X0 hx (hb hby own_d7_16) rfl (q := 17) rfl ?_
      refine own_aloadN X0 hx (hb hby own_d7_17) rfl rfl (q := 18) rfl ?_
      obtain ⟨T113, X113, e113, st113⟩ := getF X0 hx hZ hown (host := "") (Or.inl (hw _ (List.mem_of_getElem? (i := 13) rfl))) Via.refl e0 F_t (g := (mkF m 18 #[.val (.ref o0), .val (.int p1), .val (.int b), .val (.int i)] [(.ref o0), (.int b)])) rfl rfl (hb hby own_d7_18)
      refine own_back st113 ?_
      show own_End p e below s _ _ _ (T113.setTop (mkF m 21 #[.val (.ref o0), .val (.int p1), .val (.int b), .val (.int i)] [(.ref wt), (.int b)]))
      refine own_iloadN X113 hx (hb hby own_d7_21) rfl (q := 22) rfl ?_
      obtain ⟨cl114, Ar114, S114, N114v, H114⟩ := id A_wt
      have hin114 : ¬ (i < 0 ∨ cl114.slots.size ≤ (i).toNatClampNeg) := inb_of S114 ⟨Int32.lt_asymm hc13_112, he2.1⟩
      refine own_back (X113.iaload hx (j := i) (v := (.int (f (i).toNatClampNeg))) (by rw [e113]; exact Ar114.1) (State.isArrayOf_alike hZ.alike Ar114.2.1) Ar114.2.2 hin114 (H114 _ (Nat.lt_of_not_le fun y => hin114 (Or.inr y))) (g := (mkF m 22 #[.val (.ref o0), .val (.int p1), .val (.int b), .val (.int i)] [(.int i), (.ref wt), (.int b)])) rfl rfl (hb hby own_d7_22)) ?_
      show own_End p e below s _ _ _ (T113.setTop (mkF m 23 #[.val (.ref o0), .val (.int p1), .val (.int b), .val (.int i)] [(.int (f (i).toNatClampNeg)), (.int b)]))
      refine own_iadd X113 hx (hb hby own_d7_23) (q := 24) rfl ?_
      refine own_istoreN X113 hx (hb hby own_d7_24) (l' := #[.val (.ref o0), .val (.int p1), .val (.int (b + (f (i).toNatClampNeg))), .val (.int i)]) rfl (q := 25) rfl ?_
      refine own_iloadN X113 hx (hb hby own_d7_25) rfl (q := 26) rfl ?_
      refine own_iloadN X113 hx (hb hby own_d7_26) rfl (q := 27) rfl ?_
      refine own_iloadN X113 hx (hb hby own_d7_27) rfl (q := 28) rfl ?_
      refine own_ineg X113 hx (hb hby own_d7_28) (q := 29) rfl ?_
      refine own_iand X113 hx (hb hby own_d7_29) (q := 30) rfl ?_
      refine own_isub X113 hx (hb hby own_d7_30) (q := 31) rfl ?_
      refine own_istoreN X113 hx (hb hby own_d7_31) (l' := #[.val (.ref o0), .val (.int p1), .val (.int (b + (f (i).toNatClampNeg))), .val (.int (i - (i &&& (-i))))]) rfl (q := 32) rfl ?_
      refine own_goto X113 hx (hb hby own_d7_32) (q := 12) (by decide) (by decide) ?_
      have hU : own_sum f (k + 1) i b = own_sum f k (i - (i &&& (-i))) (b + (f (i).toNatClampNeg)) := by rw [own_sum, if_pos hc13_112]
      rw [hU] at cont
      exact ih (i - (i &&& (-i))) (b + (f (i).toNatClampNeg)) T113 he2.2 X113 e113 cont
    · refine own_ifY X0 hx (hb hby own_d7_13) (flt hc13_112).2.2.2 (q := 35) (by decide) (by decide) ?_
      have hU : own_sum f (k + 1) i b = b := by rw [own_sum, if_neg hc13_112]
      rw [hU] at cont
      exact cont T0 i X0 e0
theorem own_d7_0 : decode prog_64_method_5_code 0 = .ok (.iconst 0, 1) := by decide +kernel
theorem own_d7_1 : decode prog_64_method_5_code 1 = .ok (.istore_n 2, 1) := by decide +kernel
theorem own_d7_2 : decode prog_64_method_5_code 2 = .ok (.iload_n 1, 1) := by decide +kernel
theorem own_d7_3 : decode prog_64_method_5_code 3 = .ok (.aload_n 0, 1) := by decide +kernel
theorem own_d7_4 : decode prog_64_method_5_code 4 = .ok (.getfield 7, 3) := by decide +kernel
theorem own_d7_7 : decode prog_64_method_5_code 7 = .ok (.arraylength, 1) := by decide +kernel
theorem own_d7_8 : decode prog_64_method_5_code 8 = .ok (.invokestatic 21, 3) := by decide +kernel
theorem own_pd1 : parseMethodDescriptor "(II)I" = some ⟨[.int, .int], some .int⟩ := by decide +kernel
theorem own_d7_11 : decode prog_64_method_5_code 11 = .ok (.istore_n 3, 1) := by decide +kernel
theorem own_d7_35 : decode prog_64_method_5_code 35 = .ok (.iload_n 2, 1) := by decide +kernel
theorem own_d7_36 : decode prog_64_method_5_code 36 = .ok (.ireturn, 1) := by decide +kernel
def own_Q7 (Z : State) (o0 : Addr) (p1 : Int32) (w_o0_members : Addr) (w_o0_tree : Addr) (N : Nat) (M : Nat) (h0 : Heap) (n0 : Nat) (v : Option Value) (h : Heap) (L : List Loc) : Prop := v = some (.int (own_sum (own_ft M) 9 (own_F8 p1 (Int32.ofNat N)) (0 : Int32))) ∧ Fr n0 L ∧ h = h0
theorem own_pn_rm7 : plainName "com/example/hardy_election/hardyelection/SharedMemory$EnabledSet" = true := by first | (simp [plainName, overriddenIn]; done) | decide +kernel
theorem own_ef_rm7 (m : MethodId) (o0 : Addr) (p1 : Int32) : entryFrame m #[(.ref o0), (.int p1)] 4 = mkF m 0 #[.val (.ref o0), .val (.int p1), .unset, .unset] [] := by first | (simp [entryFrame, mkF, argsToLocals, Value.category]; done) | rfl
set_option maxRecDepth 65536 in
set_option maxHeartbeats 40000000 in
theorem own_rm7 (l : Launch) (Z : State) (a0 : Array Value) (hw : ∀ d ∈ tables_1, d.before a0 Z = true) (ws : List Jvm.Cond) (o0 : Addr) (p1 : Int32) (w_o0_members : Addr) (w_o0_tree : Addr) (N : Nat) (M : Nat) (h0 : Heap) (n0 : Nat) (Z0 : n0 ≤ h0.size) (E_o0 : Exa Z h0 o0 "com/example/hardy_election/hardyelection/SharedMemory$EnabledSet") (F_o0_members : Fld Z h0 o0 "com/example/hardy_election/hardyelection/SharedMemory$EnabledSet" "members" "[Z" (.ref w_o0_members)) (F_o0_tree : Fld Z h0 o0 "com/example/hardy_election/hardyelection/SharedMemory$EnabledSet" "tree" "[I" (.ref w_o0_tree)) (A_w_o0_members : own_A Z h0 w_o0_members .boolean (Int32.ofNat N) (own_bt M)) (A_w_o0_tree : own_A Z h0 w_o0_tree .int (Int32.ofNat (N + 1)) (own_ft M)) (hN : 1 ≤ N ∧ N ≤ 8) (hend : own_endd (Int32.ofNat (N + 1)) 9 (own_F8 p1 (Int32.ofNat N)) = true) :
    MetFree l (⟨"com/example/hardy_election/hardyelection/SharedMemory$EnabledSet", "countBelow", "(I)I"⟩ : MethodName) (head1 (Jvm.Cond.code (⟨"com/example/hardy_election/hardyelection/SharedMemory$EnabledSet", "countBelow", "(I)I"⟩ : MethodName) prog_64_method_5_code 4 (some .int) :: ws) ({ frames := 1, cells := 0, slots := 0, locals := 13 } : Room)) (fun a U => a = #[(.ref o0), (.int p1)] ∧ Z.Warmed39 U.vm ∧ U.heap = h0) (fun _ _ _ _ _ => True) (fun _ U o U' => ∃ v L, o = .returned v ∧ own_Q7 Z o0 p1 w_o0_members w_o0_tree N M h0 n0 v U'.heap L ∧ FrameEnd U o U' L ({ frames := 1, cells := 0, slots := 0, locals := 13 } : Room).cells ({ frames := 1, cells := 0, slots := 0, locals := 13 } : Room).slots) := by
  refine MetFree.of_bodySF (plainFor_of_name own_pn_rm7) hisR ?_
  intro p e s m args below meth c s₁ Bd hml0 hP hK
  obtain ⟨rfl, hZ, hh⟩ := hP
  have hx := Bd.exec
  have hby := Bd.bytes
  have hml : c.maxLocals = 4 := hml0
  have hown : s.vm.findClass "com/example/hardy_election/hardyelection/SharedMemory$EnabledSet" = some m.cls := findClass_of_methodNamed Bd.named
  have hnm := (name_of_methodNamed Bd.named Bd.method).1
  have X0 : Stand p l e ({ frames := 1, cells := 0, slots := 0, locals := 13 } : Room) s m #[(.ref o0), (.int p1)] below meth c s₁ [] 0 0 := Stand.of_body Bd
  have e0 : s₁.heap = h0 := by rw [← hh, Bd.state]; rfl
  have N0 := Fr.nil n0
  show own_End p e below s (own_Q7 Z o0 p1 w_o0_members w_o0_tree N M h0 n0) ({ frames := 1, cells := 0, slots := 0, locals := 13 } : Room).cells ({ frames := 1, cells := 0, slots := 0, locals := 13 } : Room).slots (s₁.setTop (entryFrame m #[(.ref o0), (.int p1)] 4))
  rw [own_ef_rm7]
  refine own_iconst X0 hx (hb hby own_d7_0) (z := 0) rfl (q := 1) rfl ?_
  refine own_istoreN X0 hx (hb hby own_d7_1) (l' := #[.val (.ref o0), .val (.int p1), .val (.int (0 : Int32)), .unset]) rfl (q := 2) rfl ?_
  refine own_iloadN X0 hx (hb hby own_d7_2) rfl (q := 3) rfl ?_
  refine own_aloadN X0 hx (hb hby own_d7_3) rfl rfl (q := 4) rfl ?_
  obtain ⟨T117, X117, e117, st117⟩ := getF X0 hx hZ hown (host := "") (Or.inl (hw _ (List.mem_of_getElem? (i := 10) rfl))) Via.refl e0 F_o0_members (g := (mkF m 4 #[.val (.ref o0), .val (.int p1), .val (.int (0 : Int32)), .unset] [(.ref o0), (.int p1)])) rfl rfl (hb hby own_d7_4)
  refine own_back st117 ?_
  show own_End p e below s _ _ _ (T117.setTop (mkF m 7 #[.val (.ref o0), .val (.int p1), .val (.int (0 : Int32)), .unset] [(.ref w_o0_members), (.int p1)]))
  obtain ⟨cl118, Ar118, S118, N118v, H118⟩ := id A_w_o0_members
  refine own_back (X117.arraylength hx (by rw [e117]; exact Ar118.1) (State.isArrayOf_alike hZ.alike Ar118.2.1) (g := (mkF m 7 #[.val (.ref o0), .val (.int p1), .val (.int (0 : Int32)), .unset] [(.ref w_o0_members), (.int p1)])) rfl rfl (hb hby own_d7_7)) ?_
  rw [len_of S118 N118v]
  show own_End p e below s _ _ _ (T117.setTop (mkF m 8 #[.val (.ref o0), .val (.int p1), .val (.int (0 : Int32)), .unset] [(.int (Int32.ofNat N)), (.int p1)]))
  obtain ⟨T119, Lc119, L119, X119, N119, hQ119, st119⟩ := own_shutS (val := some (.int (own_F8 p1 (Int32.ofNat N)))) (Q := own_Q8 Z p1 (Int32.ofNat N) h0 n0) (rc := 0) (rs := 0) N0 (fun _ _ _ q => ⟨q.1, q.2.1⟩) (Jvm.LawKit.callS X117 hx (y := (⟨"java/lang/Math", "min", "(II)I"⟩ : MethodName)) hown (mvT hZ (hw _ (List.mem_of_getElem? (i := 39) rfl))) (mvT hZ (hw _ (List.mem_of_getElem? (i := 40) rfl))) (mvT hZ (hw _ (List.mem_of_getElem? (i := 41) rfl))) (mvT hZ (hw _ (List.mem_of_getElem? (i := 42) rfl))) (by decide) (backOf (W := 0) (own_rm8 l Z a0 hw [] p1 (Int32.ofNat N) h0 n0 Z0 ) hZ (hw _ (List.mem_of_getElem? (i := 42) rfl)) (hw _ (List.mem_of_getElem? (i := 41) rfl)) (by decide) (by decide)) (g := (mkF m 8 #[.val (.ref o0), .val (.int p1), .val (.int (0 : Int32)), .unset] [(.int (Int32.ofNat N)), (.int p1)])) rfl (by rw [hml]; rfl) (argsL := [(.int p1), (.int (Int32.ofNat N))]) (rest := []) (lenOf own_pd1 rfl) rfl (by show 2 * 0 + _ ≤ _; exact Nat.le_of_eq rfl) (hb hby own_d7_8) (fun _ _ => ⟨rfl, e117, (by decide : 0 + 0 ≤ _), (by decide : 0 + 0 ≤ _)⟩))
  obtain ⟨-, -, e119⟩ := hQ119
  refine own_back st119 ?_
  show own_End p e below s _ _ _ (T119.setTop (mkF m 11 #[.val (.ref o0), .val (.int p1), .val (.int (0 : Int32)), .unset] [(.int (own_F8 p1 (Int32.ofNat N)))]))
  refine own_istoreN X119 hx (hb hby own_d7_11) (l' := #[.val (.ref o0), .val (.int p1), .val (.int (0 : Int32)), .val (.int (own_F8 p1 (Int32.ofNat N)))]) rfl (q := 12) rfl ?_
  refine own_lp7 hw hx hZ hby hml hown o0 w_o0_tree p1 (Int32.ofNat (N + 1)) (own_ft M) h0 _ F_o0_tree A_w_o0_tree 9 (own_F8 p1 (Int32.ofNat N)) (0 : Int32) _ hend X119 e119 ?_
  intro T120 i120 X120 e120
  refine own_iloadN X120 hx (hb hby own_d7_35) rfl (q := 36) rfl ?_
  refine own_retI X120 hx Bd.returns Bd.notSynchronized (by decide) (by decide) (hb hby own_d7_36) ?_
  show own_Q7 Z o0 p1 w_o0_members w_o0_tree N M h0 n0 _ T120.heap _
  exact ⟨rfl, N119, e120⟩
theorem own_d9_0 : decode prog_64_method_2_code 0 = .ok (.aload_n 0, 1) := by decide +kernel
theorem own_d9_1 : decode prog_64_method_2_code 1 = .ok (.getfield 7, 3) := by decide +kernel
theorem own_d9_4 : decode prog_64_method_2_code 4 = .ok (.iload_n 1, 1) := by decide +kernel
theorem own_d9_5 : decode prog_64_method_2_code 5 = .ok (.baload, 1) := by decide +kernel
theorem own_d9_6 : decode prog_64_method_2_code 6 = .ok (.ireturn, 1) := by decide +kernel
def own_Q9 (Z : State) (o0 : Addr) (w_o0_members : Addr) (N : Nat) (M : Nat) (y : Nat) (h0 : Heap) (n0 : Nat) (v : Option Value) (h : Heap) (L : List Loc) : Prop := v = some (.int ((own_bt M y) &&& 1)) ∧ Fr n0 L ∧ h = h0
theorem own_pn_rm9 : plainName "com/example/hardy_election/hardyelection/SharedMemory$EnabledSet" = true := by first | (simp [plainName, overriddenIn]; done) | decide +kernel
theorem own_ef_rm9 (m : MethodId) (o0 : Addr) (y : Nat) : entryFrame m #[(.ref o0), (.int (Int32.ofNat y))] 2 = mkF m 0 #[.val (.ref o0), .val (.int (Int32.ofNat y))] [] := by first | (simp [entryFrame, mkF, argsToLocals, Value.category]; done) | rfl
set_option maxRecDepth 65536 in
set_option maxHeartbeats 40000000 in
theorem own_rm9 (l : Launch) (Z : State) (a0 : Array Value) (hw : ∀ d ∈ tables_1, d.before a0 Z = true) (ws : List Jvm.Cond) (o0 : Addr) (w_o0_members : Addr) (N : Nat) (M : Nat) (y : Nat) (h0 : Heap) (n0 : Nat) (Z0 : n0 ≤ h0.size) (E_o0 : Exa Z h0 o0 "com/example/hardy_election/hardyelection/SharedMemory$EnabledSet") (F_o0_members : Fld Z h0 o0 "com/example/hardy_election/hardyelection/SharedMemory$EnabledSet" "members" "[Z" (.ref w_o0_members)) (A_w_o0_members : own_A Z h0 w_o0_members .boolean (Int32.ofNat N) (own_bt M)) (hN : 1 ≤ N ∧ N ≤ 8) (hyN : y < N) :
    MetFree l (⟨"com/example/hardy_election/hardyelection/SharedMemory$EnabledSet", "contains", "(I)Z"⟩ : MethodName) (head1 (Jvm.Cond.code (⟨"com/example/hardy_election/hardyelection/SharedMemory$EnabledSet", "contains", "(I)Z"⟩ : MethodName) prog_64_method_2_code 2 (some .boolean) :: ws) ({ frames := 0, cells := 0, slots := 0, locals := 0 } : Room)) (fun a U => a = #[(.ref o0), (.int (Int32.ofNat y))] ∧ Z.Warmed39 U.vm ∧ U.heap = h0) (fun _ _ _ _ _ => True) (fun _ U o U' => ∃ v L, o = .returned v ∧ own_Q9 Z o0 w_o0_members N M y h0 n0 v U'.heap L ∧ FrameEnd U o U' L ({ frames := 0, cells := 0, slots := 0, locals := 0 } : Room).cells ({ frames := 0, cells := 0, slots := 0, locals := 0 } : Room).slots) := by
  refine MetFree.of_bodySF (plainFor_of_name own_pn_rm9) hisR ?_
  intro p e s m args below meth c s₁ Bd hml0 hP hK
  obtain ⟨rfl, hZ, hh⟩ := hP
  have hx := Bd.exec
  have hby := Bd.bytes
  have hml : c.maxLocals = 2 := hml0
  have hown : s.vm.findClass "com/example/hardy_election/hardyelection/SharedMemory$EnabledSet" = some m.cls := findClass_of_methodNamed Bd.named
  have hnm := (name_of_methodNamed Bd.named Bd.method).1
  have X0 : Stand p l e ({ frames := 0, cells := 0, slots := 0, locals := 0 } : Room) s m #[(.ref o0), (.int (Int32.ofNat y))] below meth c s₁ [] 0 0 := Stand.of_body Bd
  have e0 : s₁.heap = h0 := by rw [← hh, Bd.state]; rfl
  have N0 := Fr.nil n0
  show own_End p e below s (own_Q9 Z o0 w_o0_members N M y h0 n0) ({ frames := 0, cells := 0, slots := 0, locals := 0 } : Room).cells ({ frames := 0, cells := 0, slots := 0, locals := 0 } : Room).slots (s₁.setTop (entryFrame m #[(.ref o0), (.int (Int32.ofNat y))] 2))
  rw [own_ef_rm9]
  refine own_aloadN X0 hx (hb hby own_d9_0) rfl rfl (q := 1) rfl ?_
  obtain ⟨T122, X122, e122, st122⟩ := getF X0 hx hZ hown (host := "") (Or.inl (hw _ (List.mem_of_getElem? (i := 10) rfl))) Via.refl e0 F_o0_members (g := (mkF m 1 #[.val (.ref o0), .val (.int (Int32.ofNat y))] [(.ref o0)])) rfl rfl (hb hby own_d9_1)
  refine own_back st122 ?_
  show own_End p e below s _ _ _ (T122.setTop (mkF m 4 #[.val (.ref o0), .val (.int (Int32.ofNat y))] [(.ref w_o0_members)]))
  refine own_iloadN X122 hx (hb hby own_d9_4) rfl (q := 5) rfl ?_
  obtain ⟨cl123, Ar123, S123, N123v, H123⟩ := id A_w_o0_members
  have hin123 : ¬ ((Int32.ofNat y) < 0 ∨ cl123.slots.size ≤ ((Int32.ofNat y)).toNatClampNeg) := inb_of S123 ⟨own_nneg y (by omega), (own_ltN y N (by omega) (by omega)).mpr hyN⟩
  refine own_back (X122.baloadBooleans hx (j := (Int32.ofNat y)) (v := (.int ((own_bt M) ((Int32.ofNat y)).toNatClampNeg))) (by rw [e122]; exact Ar123.1) (State.isArrayOf_alike hZ.alike Ar123.2.1) Ar123.2.2 hin123 (H123 _ (Nat.lt_of_not_le fun y => hin123 (Or.inr y))) (g := (mkF m 5 #[.val (.ref o0), .val (.int (Int32.ofNat y))] [(.int (Int32.ofNat y)), (.ref w_o0_members)])) rfl rfl (hb hby own_d9_5)) ?_
  show own_End p e below s _ _ _ (T122.setTop (mkF m 6 #[.val (.ref o0), .val (.int (Int32.ofNat y))] [(.int ((own_bt M) ((Int32.ofNat y)).toNatClampNeg))]))
  rw [own_clamp y (by omega)]
  show own_End p e below s _ _ _ (T122.setTop (mkF m 6 #[.val (.ref o0), .val (.int (Int32.ofNat y))] [(.int (own_bt M y))]))
  refine own_retN X122 hx (t := .boolean) (by simp) Bd.returns Bd.notSynchronized (by decide) (by decide) (hb hby own_d9_6) ?_
  show own_Q9 Z o0 w_o0_members N M y h0 n0 _ T122.heap _
  exact ⟨rfl, N0, e122⟩
theorem own_d10_14 : decode prog_64_method_6_code 14 = .ok (.iload 4, 2) := by decide +kernel
theorem own_d10_16 : decode prog_64_method_6_code 16 = .ok (.ifCond .le 51, 3) := by decide +kernel
theorem own_d10_19 : decode prog_64_method_6_code 19 = .ok (.iload_n 2, 1) := by decide +kernel
theorem own_d10_20 : decode prog_64_method_6_code 20 = .ok (.iload 4, 2) := by decide +kernel
theorem own_d10_22 : decode prog_64_method_6_code 22 = .ok (.iadd, 1) := by decide +kernel
theorem own_d10_23 : decode prog_64_method_6_code 23 = .ok (.aload_n 0, 1) := by decide +kernel
theorem own_d10_24 : decode prog_64_method_6_code 24 = .ok (.getfield 13, 3) := by decide +kernel
theorem own_d10_27 : decode prog_64_method_6_code 27 = .ok (.arraylength, 1) := by decide +kernel
theorem own_d10_28 : decode prog_64_method_6_code 28 = .ok (.if_icmp .ge 30, 3) := by decide +kernel
theorem own_d10_31 : decode prog_64_method_6_code 31 = .ok (.aload_n 0, 1) := by decide +kernel
theorem own_d10_32 : decode prog_64_method_6_code 32 = .ok (.getfield 13, 3) := by decide +kernel
theorem own_d10_35 : decode prog_64_method_6_code 35 = .ok (.iload_n 2, 1) := by decide +kernel
theorem own_d10_36 : decode prog_64_method_6_code 36 = .ok (.iload 4, 2) := by decide +kernel
theorem own_d10_38 : decode prog_64_method_6_code 38 = .ok (.iadd, 1) := by decide +kernel
theorem own_d10_39 : decode prog_64_method_6_code 39 = .ok (.iaload, 1) := by decide +kernel
theorem own_d10_40 : decode prog_64_method_6_code 40 = .ok (.iload_n 3, 1) := by decide +kernel
theorem own_d10_41 : decode prog_64_method_6_code 41 = .ok (.if_icmp .gt 17, 3) := by decide +kernel
theorem own_d10_58 : decode prog_64_method_6_code 58 = .ok (.iload 4, 2) := by decide +kernel
theorem own_d10_60 : decode prog_64_method_6_code 60 = .ok (.iconst 1, 1) := by decide +kernel
theorem own_d10_61 : decode prog_64_method_6_code 61 = .ok (.ishr, 1) := by decide +kernel
theorem own_d10_62 : decode prog_64_method_6_code 62 = .ok (.istore 4, 2) := by decide +kernel
theorem own_d10_64 : decode prog_64_method_6_code 64 = .ok (.goto (-50), 3) := by decide +kernel
theorem own_d10_44 : decode prog_64_method_6_code 44 = .ok (.iload_n 2, 1) := by decide +kernel
theorem own_d10_45 : decode prog_64_method_6_code 45 = .ok (.iload 4, 2) := by decide +kernel
theorem own_d10_47 : decode prog_64_method_6_code 47 = .ok (.iadd, 1) := by decide +kernel
theorem own_d10_48 : decode prog_64_method_6_code 48 = .ok (.istore_n 2, 1) := by decide +kernel
theorem own_d10_49 : decode prog_64_method_6_code 49 = .ok (.iload_n 3, 1) := by decide +kernel
theorem own_d10_50 : decode prog_64_method_6_code 50 = .ok (.aload_n 0, 1) := by decide +kernel
theorem own_d10_51 : decode prog_64_method_6_code 51 = .ok (.getfield 13, 3) := by decide +kernel
theorem own_d10_54 : decode prog_64_method_6_code 54 = .ok (.iload_n 2, 1) := by decide +kernel
theorem own_d10_55 : decode prog_64_method_6_code 55 = .ok (.iaload, 1) := by decide +kernel
theorem own_d10_56 : decode prog_64_method_6_code 56 = .ok (.isub, 1) := by decide +kernel
theorem own_d10_57 : decode prog_64_method_6_code 57 = .ok (.istore_n 3, 1) := by decide +kernel
set_option maxRecDepth 65536 in
set_option maxHeartbeats 40000000 in
theorem own_lp10 {p : Program} {l : Launch} {e : Env} {R : Room} {s : State} {m : MethodId} {args : Array Value} {below : List Frame} {meth : Method} {c : Code} {Z : State} {a0 : Array Value} {Q : Option Value → Heap → List Loc → Prop} {K N : Nat} {cells slots : Nat} (hw : ∀ d ∈ tables_1, d.before a0 Z = true) (hx : p.tables.exec = Jvm.exec) (hZ : Z.Warmed39 s.vm) (hby : c.code = prog_64_method_6_code) (hml : c.maxLocals = 5) (hown : s.vm.findClass "com/example/hardy_election/hardyelection/SharedMemory$EnabledSet" = some m.cls) (o0 wt : Addr) (p1 n1 : Int32) (f : Nat → Int32) (h0 : Heap) (locs : List Loc) (F_t : Fld Z h0 o0 "com/example/hardy_election/hardyelection/SharedMemory$EnabledSet" "tree" "[I" (.ref wt)) (A_wt : own_A Z h0 wt .int n1 f) :
    ∀ (k : Nat) (pos left sp : Int32) (T0 : State), own_selk f n1 k pos left sp = true → Stand p l e R s m args below meth c T0 locs cells slots → T0.heap = h0 →
      (∀ (T' : State) (left' sp' : Int32), Stand p l e R s m args below meth c T' locs cells slots → T'.heap = h0 → own_End p e below s Q K N (T'.setTop (mkF m 67 #[.val (.ref o0), .val (.int p1), .val (.int (own_sel f n1 k pos left sp)), .val (.int left'), .val (.int sp')] []))) →
      own_End p e below s Q K N (T0.setTop (mkF m 14 #[.val (.ref o0), .val (.int p1), .val (.int pos), .val (.int left), .val (.int sp)] [])) := by
  intro k
  induction k with
  | zero =>
    intro pos left sp T0 he
    exact absurd he (by simp [own_selk])
  | succ k ih =>
    intro pos left sp T0 he X0 e0 cont
    refine own_iload X0 hx (hb hby own_d10_14) rfl (q := 16) rfl ?_
    by_cases hc16_125 : (0 : Int32) < sp
    · refine own_ifN X0 hx (hb hby own_d10_16) (tlt hc16_125).2.2.2 (q := 19) rfl ?_
      refine own_iloadN X0 hx (hb hby own_d10_19) rfl (q := 20) rfl ?_
      refine own_iload X0 hx (hb hby own_d10_20) rfl (q := 22) rfl ?_
      refine own_iadd X0 hx (hb hby own_d10_22) (q := 23) rfl ?_
      refine own_aloadN X0 hx (hb hby own_d10_23) rfl rfl (q := 24) rfl ?_
      obtain ⟨T126, X126, e126, st126⟩ := getF X0 hx hZ hown (host := "") (Or.inl (hw _ (List.mem_of_getElem? (i := 13) rfl))) Via.refl e0 F_t (g := (mkF m 24 #[.val (.ref o0), .val (.int p1), .val (.int pos), .val (.int left), .val (.int sp)] [(.ref o0), (.int (pos + sp))])) rfl rfl (hb hby own_d10_24)
      refine own_back st126 ?_
      show own_End p e below s _ _ _ (T126.setTop (mkF m 27 #[.val (.ref o0), .val (.int p1), .val (.int pos), .val (.int left), .val (.int sp)] [(.ref wt), (.int (pos + sp))]))
      obtain ⟨cl127, Ar127, S127, N127v, H127⟩ := id A_wt
      refine own_back (X126.arraylength hx (by rw [e126]; exact Ar127.1) (State.isArrayOf_alike hZ.alike Ar127.2.1) (g := (mkF m 27 #[.val (.ref o0), .val (.int p1), .val (.int pos), .val (.int left), .val (.int sp)] [(.ref wt), (.int (pos + sp))])) rfl rfl (hb hby own_d10_27)) ?_
      rw [len_of S127 N127v]
      show own_End p e below s _ _ _ (T126.setTop (mkF m 28 #[.val (.ref o0), .val (.int p1), .val (.int pos), .val (.int left), .val (.int sp)] [(.int n1), (.int (pos + sp))]))
      by_cases hc28_128 : (pos + sp) < n1
      · refine own_icN X126 hx (hb hby own_d10_28) (tlt hc28_128).2.1 (q := 31) rfl ?_
        have he2 : ¬ pos + sp < 0 ∧ (if left < f (pos + sp).toNatClampNeg then own_selk f n1 k pos left (sp >>> ((1 : Int32) &&& 31)) else own_selk f n1 k (pos + sp) (left - f (pos + sp).toNatClampNeg) (sp >>> ((1 : Int32) &&& 31))) = true := by rw [own_selk, if_pos hc16_125, if_pos hc28_128, Bool.and_eq_true] at he; exact ⟨own_nd he.1, he.2⟩
        refine own_aloadN X126 hx (hb hby own_d10_31) rfl rfl (q := 32) rfl ?_
        obtain ⟨T129, X129, e129, st129⟩ := getF X126 hx hZ hown (host := "") (Or.inl (hw _ (List.mem_of_getElem? (i := 13) rfl))) Via.refl e126 F_t (g := (mkF m 32 #[.val (.ref o0), .val (.int p1), .val (.int pos), .val (.int left), .val (.int sp)] [(.ref o0)])) rfl rfl (hb hby own_d10_32)
        refine own_back st129 ?_
        show own_End p e below s _ _ _ (T129.setTop (mkF m 35 #[.val (.ref o0), .val (.int p1), .val (.int pos), .val (.int left), .val (.int sp)] [(.ref wt)]))
        refine own_iloadN X129 hx (hb hby own_d10_35) rfl (q := 36) rfl ?_
        refine own_iload X129 hx (hb hby own_d10_36) rfl (q := 38) rfl ?_
        refine own_iadd X129 hx (hb hby own_d10_38) (q := 39) rfl ?_
        obtain ⟨cl130, Ar130, S130, N130v, H130⟩ := id A_wt
        have hin130 : ¬ ((pos + sp) < 0 ∨ cl130.slots.size ≤ ((pos + sp)).toNatClampNeg) := inb_of S130 ⟨he2.1, hc28_128⟩
        refine own_back (X129.iaload hx (j := (pos + sp)) (v := (.int (f ((pos + sp)).toNatClampNeg))) (by rw [e129]; exact Ar130.1) (State.isArrayOf_alike hZ.alike Ar130.2.1) Ar130.2.2 hin130 (H130 _ (Nat.lt_of_not_le fun y => hin130 (Or.inr y))) (g := (mkF m 39 #[.val (.ref o0), .val (.int p1), .val (.int pos), .val (.int left), .val (.int sp)] [(.int (pos + sp)), (.ref wt)])) rfl rfl (hb hby own_d10_39)) ?_
        show own_End p e below s _ _ _ (T129.setTop (mkF m 40 #[.val (.ref o0), .val (.int p1), .val (.int pos), .val (.int left), .val (.int sp)] [(.int (f ((pos + sp)).toNatClampNeg))]))
        refine own_iloadN X129 hx (hb hby own_d10_40) rfl (q := 41) rfl ?_
        by_cases hc41_131 : left < (f ((pos + sp)).toNatClampNeg)
        · refine own_icY X129 hx (hb hby own_d10_41) (tlt hc41_131).2.2.1 (q := 58) (by decide) (by decide) ?_
          refine own_iload X129 hx (hb hby own_d10_58) rfl (q := 60) rfl ?_
          refine own_iconst X129 hx (hb hby own_d10_60) (z := 1) rfl (q := 61) rfl ?_
          refine own_ishr X129 hx (hb hby own_d10_61) (q := 62) rfl ?_
          refine own_istore X129 hx (hb hby own_d10_62) (l' := #[.val (.ref o0), .val (.int p1), .val (.int pos), .val (.int left), .val (.int (sp >>> ((1 : Int32) &&& 31)))]) rfl (q := 64) rfl ?_
          refine own_goto X129 hx (hb hby own_d10_64) (q := 14) (by decide) (by decide) ?_
          have hU : own_sel f n1 (k + 1) pos left sp = own_sel f n1 k pos left (sp >>> ((1 : Int32) &&& 31)) := by rw [own_sel, if_pos hc16_125, if_pos hc28_128, if_pos hc41_131]
          rw [hU] at cont
          have he3 : own_selk f n1 k pos left (sp >>> ((1 : Int32) &&& 31)) = true := by have q := he2.2; rw [if_pos hc41_131] at q; exact q
          exact ih pos left (sp >>> ((1 : Int32) &&& 31)) T129 he3 X129 e129 cont
        · refine own_icN X129 hx (hb hby own_d10_41) (flt hc41_131).2.2.1 (q := 44) rfl ?_
          refine own_iloadN X129 hx (hb hby own_d10_44) rfl (q := 45) rfl ?_
          refine own_iload X129 hx (hb hby own_d10_45) rfl (q := 47) rfl ?_
          refine own_iadd X129 hx (hb hby own_d10_47) (q := 48) rfl ?_
          refine own_istoreN X129 hx (hb hby own_d10_48) (l' := #[.val (.ref o0), .val (.int p1), .val (.int (pos + sp)), .val (.int left), .val (.int sp)]) rfl (q := 49) rfl ?_
          refine own_iloadN X129 hx (hb hby own_d10_49) rfl (q := 50) rfl ?_
          refine own_aloadN X129 hx (hb hby own_d10_50) rfl rfl (q := 51) rfl ?_
          obtain ⟨T133, X133, e133, st133⟩ := getF X129 hx hZ hown (host := "") (Or.inl (hw _ (List.mem_of_getElem? (i := 13) rfl))) Via.refl e129 F_t (g := (mkF m 51 #[.val (.ref o0), .val (.int p1), .val (.int (pos + sp)), .val (.int left), .val (.int sp)] [(.ref o0), (.int left)])) rfl rfl (hb hby own_d10_51)
          refine own_back st133 ?_
          show own_End p e below s _ _ _ (T133.setTop (mkF m 54 #[.val (.ref o0), .val (.int p1), .val (.int (pos + sp)), .val (.int left), .val (.int sp)] [(.ref wt), (.int left)]))
          refine own_iloadN X133 hx (hb hby own_d10_54) rfl (q := 55) rfl ?_
          obtain ⟨cl134, Ar134, S134, N134v, H134⟩ := id A_wt
          have hin134 : ¬ ((pos + sp) < 0 ∨ cl134.slots.size ≤ ((pos + sp)).toNatClampNeg) := inb_of S134 ⟨he2.1, hc28_128⟩
          refine own_back (X133.iaload hx (j := (pos + sp)) (v := (.int (f ((pos + sp)).toNatClampNeg))) (by rw [e133]; exact Ar134.1) (State.isArrayOf_alike hZ.alike Ar134.2.1) Ar134.2.2 hin134 (H134 _ (Nat.lt_of_not_le fun y => hin134 (Or.inr y))) (g := (mkF m 55 #[.val (.ref o0), .val (.int p1), .val (.int (pos + sp)), .val (.int left), .val (.int sp)] [(.int (pos + sp)), (.ref wt), (.int left)])) rfl rfl (hb hby own_d10_55)) ?_
          show own_End p e below s _ _ _ (T133.setTop (mkF m 56 #[.val (.ref o0), .val (.int p1), .val (.int (pos + sp)), .val (.int left), .val (.int sp)] [(.int (f ((pos + sp)).toNatClampNeg)), (.int left)]))
          refine own_isub X133 hx (hb hby own_d10_56) (q := 57) rfl ?_
          refine own_istoreN X133 hx (hb hby own_d10_57) (l' := #[.val (.ref o0), .val (.int p1), .val (.int (pos + sp)), .val (.int (left - (f ((pos + sp)).toNatClampNeg))), .val (.int sp)]) rfl (q := 58) rfl ?_
          refine own_iload X133 hx (hb hby own_d10_58) rfl (q := 60) rfl ?_
          refine own_iconst X133 hx (hb hby own_d10_60) (z := 1) rfl (q := 61) rfl ?_
          refine own_ishr X133 hx (hb hby own_d10_61) (q := 62) rfl ?_
          refine own_istore X133 hx (hb hby own_d10_62) (l' := #[.val (.ref o0), .val (.int p1), .val (.int (pos + sp)), .val (.int (left - (f ((pos + sp)).toNatClampNeg))), .val (.int (sp >>> ((1 : Int32) &&& 31)))]) rfl (q := 64) rfl ?_
          refine own_goto X133 hx (hb hby own_d10_64) (q := 14) (by decide) (by decide) ?_
          have hU : own_sel f n1 (k + 1) pos left sp = own_sel f n1 k (pos + sp) (left - (f ((pos + sp)).toNatClampNeg)) (sp >>> ((1 : Int32) &&& 31)) := by rw [own_sel, if_pos hc16_125, if_pos hc28_128, if_neg hc41_131]
          rw [hU] at cont
          have he3 : own_selk f n1 k (pos + sp) (left - (f ((pos + sp)).toNatClampNeg)) (sp >>> ((1 : Int32) &&& 31)) = true := by have q := he2.2; rw [if_neg hc41_131] at q; exact q
          exact ih (pos + sp) (left - (f ((pos + sp)).toNatClampNeg)) (sp >>> ((1 : Int32) &&& 31)) T133 he3 X133 e133 cont
      · refine own_icY X126 hx (hb hby own_d10_28) (flt hc28_128).2.1 (q := 58) (by decide) (by decide) ?_
        refine own_iload X126 hx (hb hby own_d10_58) rfl (q := 60) rfl ?_
        refine own_iconst X126 hx (hb hby own_d10_60) (z := 1) rfl (q := 61) rfl ?_
        refine own_ishr X126 hx (hb hby own_d10_61) (q := 62) rfl ?_
        refine own_istore X126 hx (hb hby own_d10_62) (l' := #[.val (.ref o0), .val (.int p1), .val (.int pos), .val (.int left), .val (.int (sp >>> ((1 : Int32) &&& 31)))]) rfl (q := 64) rfl ?_
        refine own_goto X126 hx (hb hby own_d10_64) (q := 14) (by decide) (by decide) ?_
        have hU : own_sel f n1 (k + 1) pos left sp = own_sel f n1 k pos left (sp >>> ((1 : Int32) &&& 31)) := by rw [own_sel, if_pos hc16_125, if_neg hc28_128]
        rw [hU] at cont
        have he3 : own_selk f n1 k pos left (sp >>> ((1 : Int32) &&& 31)) = true := by rw [own_selk, if_pos hc16_125, if_neg hc28_128] at he; exact he
        exact ih pos left (sp >>> ((1 : Int32) &&& 31)) T126 he3 X126 e126 cont
    · refine own_ifY X0 hx (hb hby own_d10_16) (flt hc16_125).2.2.2 (q := 67) (by decide) (by decide) ?_
      have hU : own_sel f n1 (k + 1) pos left sp = pos := by rw [own_sel, if_neg hc16_125]
      rw [hU] at cont
      exact cont T0 left sp X0 e0
theorem own_d10_0 : decode prog_64_method_6_code 0 = .ok (.iconst 0, 1) := by decide +kernel
theorem own_d10_1 : decode prog_64_method_6_code 1 = .ok (.istore_n 2, 1) := by decide +kernel
theorem own_d10_2 : decode prog_64_method_6_code 2 = .ok (.iload_n 1, 1) := by decide +kernel
theorem own_d10_3 : decode prog_64_method_6_code 3 = .ok (.istore_n 3, 1) := by decide +kernel
theorem own_d10_4 : decode prog_64_method_6_code 4 = .ok (.aload_n 0, 1) := by decide +kernel
theorem own_d10_5 : decode prog_64_method_6_code 5 = .ok (.getfield 7, 3) := by decide +kernel
theorem own_d10_8 : decode prog_64_method_6_code 8 = .ok (.arraylength, 1) := by decide +kernel
theorem own_d10_9 : decode prog_64_method_6_code 9 = .ok (.invokestatic 27, 3) := by decide +kernel
theorem own_d10_12 : decode prog_64_method_6_code 12 = .ok (.istore 4, 2) := by decide +kernel
theorem own_d10_67 : decode prog_64_method_6_code 67 = .ok (.iload_n 2, 1) := by decide +kernel
theorem own_d10_68 : decode prog_64_method_6_code 68 = .ok (.ireturn, 1) := by decide +kernel
def own_Q10 (Z : State) (o0 : Addr) (p1 : Int32) (w_o0_members : Addr) (w_o0_tree : Addr) (N : Nat) (M : Nat) (h0 : Heap) (n0 : Nat) (v : Option Value) (h : Heap) (L : List Loc) : Prop := v = some (.int (own_sel (own_ft M) (Int32.ofNat (N + 1)) 9 (0 : Int32) p1 (own_F11 (Int32.ofNat N)))) ∧ Fr n0 L ∧ h = h0
theorem own_pn_rm10 : plainName "com/example/hardy_election/hardyelection/SharedMemory$EnabledSet" = true := by first | (simp [plainName, overriddenIn]; done) | decide +kernel
theorem own_ef_rm10 (m : MethodId) (o0 : Addr) (p1 : Int32) : entryFrame m #[(.ref o0), (.int p1)] 5 = mkF m 0 #[.val (.ref o0), .val (.int p1), .unset, .unset, .unset] [] := by first | (simp [entryFrame, mkF, argsToLocals, Value.category]; done) | rfl
set_option maxRecDepth 65536 in
set_option maxHeartbeats 40000000 in
theorem own_rm10 (l : Launch) (Z : State) (a0 : Array Value) (hw : ∀ d ∈ tables_1, d.before a0 Z = true) (ws : List Jvm.Cond) (o0 : Addr) (p1 : Int32) (w_o0_members : Addr) (w_o0_tree : Addr) (N : Nat) (M : Nat) (h0 : Heap) (n0 : Nat) (Z0 : n0 ≤ h0.size) (E_o0 : Exa Z h0 o0 "com/example/hardy_election/hardyelection/SharedMemory$EnabledSet") (F_o0_members : Fld Z h0 o0 "com/example/hardy_election/hardyelection/SharedMemory$EnabledSet" "members" "[Z" (.ref w_o0_members)) (F_o0_tree : Fld Z h0 o0 "com/example/hardy_election/hardyelection/SharedMemory$EnabledSet" "tree" "[I" (.ref w_o0_tree)) (A_w_o0_members : own_A Z h0 w_o0_members .boolean (Int32.ofNat N) (own_bt M)) (A_w_o0_tree : own_A Z h0 w_o0_tree .int (Int32.ofNat (N + 1)) (own_ft M)) (hN : 1 ≤ N ∧ N ≤ 8) (hsk : own_selk (own_ft M) (Int32.ofNat (N + 1)) 9 (0 : Int32) p1 (own_F11 (Int32.ofNat N)) = true) :
    MetFree l (⟨"com/example/hardy_election/hardyelection/SharedMemory$EnabledSet", "select", "(I)I"⟩ : MethodName) (head1 (Jvm.Cond.code (⟨"com/example/hardy_election/hardyelection/SharedMemory$EnabledSet", "select", "(I)I"⟩ : MethodName) prog_64_method_6_code 5 (some .int) :: ws) ({ frames := 2, cells := 0, slots := 0, locals := 27 } : Room)) (fun a U => a = #[(.ref o0), (.int p1)] ∧ Z.Warmed39 U.vm ∧ U.heap = h0) (fun _ _ _ _ _ => True) (fun _ U o U' => ∃ v L, o = .returned v ∧ own_Q10 Z o0 p1 w_o0_members w_o0_tree N M h0 n0 v U'.heap L ∧ FrameEnd U o U' L ({ frames := 2, cells := 0, slots := 0, locals := 27 } : Room).cells ({ frames := 2, cells := 0, slots := 0, locals := 27 } : Room).slots) := by
  refine MetFree.of_bodySF (plainFor_of_name own_pn_rm10) hisR ?_
  intro p e s m args below meth c s₁ Bd hml0 hP hK
  obtain ⟨rfl, hZ, hh⟩ := hP
  have hx := Bd.exec
  have hby := Bd.bytes
  have hml : c.maxLocals = 5 := hml0
  have hown : s.vm.findClass "com/example/hardy_election/hardyelection/SharedMemory$EnabledSet" = some m.cls := findClass_of_methodNamed Bd.named
  have hnm := (name_of_methodNamed Bd.named Bd.method).1
  have X0 : Stand p l e ({ frames := 2, cells := 0, slots := 0, locals := 27 } : Room) s m #[(.ref o0), (.int p1)] below meth c s₁ [] 0 0 := Stand.of_body Bd
  have e0 : s₁.heap = h0 := by rw [← hh, Bd.state]; rfl
  have N0 := Fr.nil n0
  show own_End p e below s (own_Q10 Z o0 p1 w_o0_members w_o0_tree N M h0 n0) ({ frames := 2, cells := 0, slots := 0, locals := 27 } : Room).cells ({ frames := 2, cells := 0, slots := 0, locals := 27 } : Room).slots (s₁.setTop (entryFrame m #[(.ref o0), (.int p1)] 5))
  rw [own_ef_rm10]
  refine own_iconst X0 hx (hb hby own_d10_0) (z := 0) rfl (q := 1) rfl ?_
  refine own_istoreN X0 hx (hb hby own_d10_1) (l' := #[.val (.ref o0), .val (.int p1), .val (.int (0 : Int32)), .unset, .unset]) rfl (q := 2) rfl ?_
  refine own_iloadN X0 hx (hb hby own_d10_2) rfl (q := 3) rfl ?_
  refine own_istoreN X0 hx (hb hby own_d10_3) (l' := #[.val (.ref o0), .val (.int p1), .val (.int (0 : Int32)), .val (.int p1), .unset]) rfl (q := 4) rfl ?_
  refine own_aloadN X0 hx (hb hby own_d10_4) rfl rfl (q := 5) rfl ?_
  obtain ⟨T138, X138, e138, st138⟩ := getF X0 hx hZ hown (host := "") (Or.inl (hw _ (List.mem_of_getElem? (i := 10) rfl))) Via.refl e0 F_o0_members (g := (mkF m 5 #[.val (.ref o0), .val (.int p1), .val (.int (0 : Int32)), .val (.int p1), .unset] [(.ref o0)])) rfl rfl (hb hby own_d10_5)
  refine own_back st138 ?_
  show own_End p e below s _ _ _ (T138.setTop (mkF m 8 #[.val (.ref o0), .val (.int p1), .val (.int (0 : Int32)), .val (.int p1), .unset] [(.ref w_o0_members)]))
  obtain ⟨cl139, Ar139, S139, N139v, H139⟩ := id A_w_o0_members
  refine own_back (X138.arraylength hx (by rw [e138]; exact Ar139.1) (State.isArrayOf_alike hZ.alike Ar139.2.1) (g := (mkF m 8 #[.val (.ref o0), .val (.int p1), .val (.int (0 : Int32)), .val (.int p1), .unset] [(.ref w_o0_members)])) rfl rfl (hb hby own_d10_8)) ?_
  rw [len_of S139 N139v]
  show own_End p e below s _ _ _ (T138.setTop (mkF m 9 #[.val (.ref o0), .val (.int p1), .val (.int (0 : Int32)), .val (.int p1), .unset] [(.int (Int32.ofNat N))]))
  obtain ⟨T140, Lc140, L140, X140, N140, hQ140, st140⟩ := own_shutS (val := some (.int (own_F11 (Int32.ofNat N)))) (Q := own_Q11 Z (Int32.ofNat N) h0 n0) (rc := 0) (rs := 0) N0 (fun _ _ _ q => ⟨q.1, q.2.1⟩) (Jvm.LawKit.callS X138 hx (y := (⟨"java/lang/Integer", "highestOneBit", "(I)I"⟩ : MethodName)) hown (mvT hZ (hw _ (List.mem_of_getElem? (i := 54) rfl))) (mvT hZ (hw _ (List.mem_of_getElem? (i := 55) rfl))) (mvT hZ (hw _ (List.mem_of_getElem? (i := 56) rfl))) (mvT hZ (hw _ (List.mem_of_getElem? (i := 57) rfl))) (by decide) (backOf (W := 0) (own_rm11 l Z a0 hw [] (Int32.ofNat N) h0 n0 Z0 ) hZ (hw _ (List.mem_of_getElem? (i := 57) rfl)) (hw _ (List.mem_of_getElem? (i := 56) rfl)) (by decide) (by decide)) (g := (mkF m 9 #[.val (.ref o0), .val (.int p1), .val (.int (0 : Int32)), .val (.int p1), .unset] [(.int (Int32.ofNat N))])) rfl (by rw [hml]; rfl) (argsL := [(.int (Int32.ofNat N))]) (rest := []) (lenOf own_pd0 rfl) rfl (by show 2 * 0 + _ ≤ _; exact Nat.le_of_eq rfl) (hb hby own_d10_9) (fun _ _ => ⟨rfl, e138, (by decide : 0 + 0 ≤ _), (by decide : 0 + 0 ≤ _)⟩))
  obtain ⟨-, -, e140⟩ := hQ140
  refine own_back st140 ?_
  show own_End p e below s _ _ _ (T140.setTop (mkF m 12 #[.val (.ref o0), .val (.int p1), .val (.int (0 : Int32)), .val (.int p1), .unset] [(.int (own_F11 (Int32.ofNat N)))]))
  refine own_istore X140 hx (hb hby own_d10_12) (l' := #[.val (.ref o0), .val (.int p1), .val (.int (0 : Int32)), .val (.int p1), .val (.int (own_F11 (Int32.ofNat N)))]) rfl (q := 14) rfl ?_
  refine own_lp10 hw hx hZ hby hml hown o0 w_o0_tree p1 (Int32.ofNat (N + 1)) (own_ft M) h0 _ F_o0_tree A_w_o0_tree 9 (0 : Int32) p1 (own_F11 (Int32.ofNat N)) _ hsk X140 e140 ?_
  intro T141 i141 j141 X141 e141
  refine own_iloadN X141 hx (hb hby own_d10_67) rfl (q := 68) rfl ?_
  refine own_retI X141 hx Bd.returns Bd.notSynchronized (by decide) (by decide) (hb hby own_d10_68) ?_
  show own_Q10 Z o0 p1 w_o0_members w_o0_tree N M h0 n0 _ T141.heap _
  exact ⟨rfl, N140, e141⟩
def own_M0_19 (p1 : Int32) : Int32 := (if (p1 &&& (1 : Int32)) = (0 : Int32) then (0 : Int32) else (1 : Int32))
def own_M0_40 (p2 : Int32) : Int32 := (if (p2 &&& (1 : Int32)) = (0 : Int32) then (0 : Int32) else (1 : Int32))
def own_M0_61 (p3 : Int32) : Int32 := (if (p3 &&& (1 : Int32)) = (0 : Int32) then (0 : Int32) else (1 : Int32))
theorem own_pd2 : parseMethodDescriptor "(I)V" = some ⟨[.int], none⟩ := by decide +kernel
theorem own_pd3 : parseMethodDescriptor "(IZ)V" = some ⟨[.int, .boolean], none⟩ := by decide +kernel
theorem own_pd4 : parseMethodDescriptor "(IIZ)I" = some ⟨[.int, .int, .boolean], some .int⟩ := by decide +kernel
theorem own_pd5 : parseMethodDescriptor "()I" = some ⟨[], some .int⟩ := by decide +kernel
def own_M0_227 (M3 : Nat) (y : Nat) : Int32 := (if (((Int32.ofNat M3) >>> ((Int32.ofNat y) &&& 31)) &&& (1 : Int32)) = (1 : Int32) then (1 : Int32) else (0 : Int32))
theorem own_pd6 : parseMethodDescriptor "(I)Z" = some ⟨[.int], some .boolean⟩ := by decide +kernel
def own_Q0 (Z : State) (p0 : Int32) (p1 : Int32) (p2 : Int32) (p3 : Int32) (p4 : Int32) (p5 : Int32) (h0 : Heap) (n0 : Nat) (v : Option Value) (h : Heap) (L : List Loc) : Prop := v = some (.int (1 : Int32)) ∧ Fr n0 L
theorem own_pn_rm0 : plainName "com/example/hardy_election/hardyelection/EnabledSetSetPinLaw" = true := by first | (simp [plainName, overriddenIn]; done) | decide +kernel
theorem own_ef_rm0 (m : MethodId) (p0 : Int32) (p1 : Int32) (p2 : Int32) (p3 : Int32) (p4 : Int32) (p5 : Int32) : entryFrame m #[(.int p0), (.int p1), (.int p2), (.int p3), (.int p4), (.int p5)] maxLocals = mkF m 0 #[.val (.int p0), .val (.int p1), .val (.int p2), .val (.int p3), .val (.int p4), .val (.int p5), .unset, .unset, .unset, .unset, .unset, .unset, .unset, .unset, .unset, .unset, .unset, .unset, .unset, .unset, .unset] [] := by first | (simp [entryFrame, mkF, argsToLocals, Value.category, maxLocals]; done) | rfl
set_option maxRecDepth 65536 in
set_option maxHeartbeats 40000000 in
theorem own_rm0 (l : Launch) (Z : State) (a0 : Array Value) (hw : ∀ d ∈ tables_1, d.before a0 Z = true) (ws : List Jvm.Cond) (p0 : Int32) (p1 : Int32) (p2 : Int32) (p3 : Int32) (p4 : Int32) (p5 : Int32) (h0 : Heap) (n0 : Nat) (Z0 : n0 ≤ h0.size) :
    MetFree l x (head1 (Jvm.Cond.code x code maxLocals ret :: ws) room_1) (fun a U => a = #[(.int p0), (.int p1), (.int p2), (.int p3), (.int p4), (.int p5)] ∧ Z.Warmed39 U.vm ∧ U.heap = h0) (fun _ _ _ _ _ => True) (fun _ U o U' => ∃ v L, o = .returned v ∧ own_Q0 Z p0 p1 p2 p3 p4 p5 h0 n0 v U'.heap L ∧ FrameEnd U o U' L room_1.cells room_1.slots) := by
  refine MetFree.of_bodySF (plainFor_of_name own_pn_rm0) hisR ?_
  intro p e s m args below meth c s₁ Bd hml0 hP hK
  obtain ⟨rfl, hZ, hh⟩ := hP
  have hx := Bd.exec
  have hby := Bd.bytes
  have hml : c.maxLocals = 21 := hml0
  have hown : s.vm.findClass "com/example/hardy_election/hardyelection/EnabledSetSetPinLaw" = some m.cls := findClass_of_methodNamed Bd.named
  have hnm := (name_of_methodNamed Bd.named Bd.method).1
  have X0 : Stand p l e room_1 s m #[(.int p0), (.int p1), (.int p2), (.int p3), (.int p4), (.int p5)] below meth c s₁ [] 0 0 := Stand.of_body Bd
  have e0 : s₁.heap = h0 := by rw [← hh, Bd.state]; rfl
  have N0 := Fr.nil n0
  show own_End p e below s (own_Q0 Z p0 p1 p2 p3 p4 p5 h0 n0) room_1.cells room_1.slots (s₁.setTop (entryFrame m #[(.int p0), (.int p1), (.int p2), (.int p3), (.int p4), (.int p5)] maxLocals))
  rw [own_ef_rm0]
  refine own_iconst X0 hx (hb hby at_0) (z := 1) rfl (q := 1) rfl ?_
  refine own_iloadN X0 hx (hb hby at_1) rfl (q := 2) rfl ?_
  refine own_bipush X0 hx (hb hby at_2) (z := 7) rfl (q := 4) rfl ?_
  refine own_iand X0 hx (hb hby at_4) (q := 5) rfl ?_
  refine own_iadd X0 hx (hb hby at_5) (q := 6) rfl ?_
  obtain ⟨N, hN, eN⟩ := own_size p0
  rw [eN]
  show own_End p e below s _ _ _ (s₁.setTop (mkF m 6 #[.val (.int p0), .val (.int p1), .val (.int p2), .val (.int p3), .val (.int p4), .val (.int p5), .unset, .unset, .unset, .unset, .unset, .unset, .unset, .unset, .unset, .unset, .unset, .unset, .unset, .unset, .unset] [(.int (Int32.ofNat N))]))
  refine own_istore X0 hx (hb hby at_6) (l' := #[.val (.int p0), .val (.int p1), .val (.int p2), .val (.int p3), .val (.int p4), .val (.int p5), .val (.int (Int32.ofNat N)), .unset, .unset, .unset, .unset, .unset, .unset, .unset, .unset, .unset, .unset, .unset, .unset, .unset, .unset]) rfl (q := 8) rfl ?_
  refine own_iloadN X0 hx (hb hby at_8) rfl (q := 9) rfl ?_
  refine own_iconst X0 hx (hb hby at_9) (z := 1) rfl (q := 10) rfl ?_
  refine own_iushr X0 hx (hb hby at_10) (q := 11) rfl ?_
  refine own_iload X0 hx (hb hby at_11) rfl (q := 13) rfl ?_
  refine own_irem X0 hx (hb hby at_13) (own_nz N hN) (q := 14) rfl ?_
  obtain ⟨xa, hxa, exa⟩ := own_rem ((p1.toUInt32 >>> ((1 : Int32) &&& 31).toUInt32).toInt32) N hN (own_ush p1)
  rw [exa]
  show own_End p e below s _ _ _ (s₁.setTop (mkF m 14 #[.val (.int p0), .val (.int p1), .val (.int p2), .val (.int p3), .val (.int p4), .val (.int p5), .val (.int (Int32.ofNat N)), .unset, .unset, .unset, .unset, .unset, .unset, .unset, .unset, .unset, .unset, .unset, .unset, .unset, .unset] [(.int (Int32.ofNat xa))]))
  refine own_istore X0 hx (hb hby at_14) (l' := #[.val (.int p0), .val (.int p1), .val (.int p2), .val (.int p3), .val (.int p4), .val (.int p5), .val (.int (Int32.ofNat N)), .val (.int (Int32.ofNat xa)), .unset, .unset, .unset, .unset, .unset, .unset, .unset, .unset, .unset, .unset, .unset, .unset, .unset]) rfl (q := 16) rfl ?_
  refine own_iloadN X0 hx (hb hby at_16) rfl (q := 17) rfl ?_
  refine own_iconst X0 hx (hb hby at_17) (z := 1) rfl (q := 18) rfl ?_
  refine own_iand X0 hx (hb hby at_18) (q := 19) rfl ?_
  suffices J146 : own_End p e below s (own_Q0 Z p0 p1 p2 p3 p4 p5 h0 n0) room_1.cells room_1.slots (s₁.setTop (mkF m 27 #[.val (.int p0), .val (.int p1), .val (.int p2), .val (.int p3), .val (.int p4), .val (.int p5), .val (.int (Int32.ofNat N)), .val (.int (Int32.ofNat xa)), .unset, .unset, .unset, .unset, .unset, .unset, .unset, .unset, .unset, .unset, .unset, .unset, .unset] [(.int (own_M0_19 p1))])) by
    by_cases hc19_143 : (p1 &&& (1 : Int32)) = (0 : Int32)
    · refine own_ifY X0 hx (hb hby at_19) (teq hc19_143).1 (q := 26) (by decide) (by decide) ?_
      refine own_iconst X0 hx (hb hby at_26) (z := 0) rfl (q := 27) rfl ?_
      simp only [own_M0_19, if_pos hc19_143] at J146
      exact J146
    · refine own_ifN X0 hx (hb hby at_19) (feq hc19_143).1 (q := 22) rfl ?_
      refine own_iconst X0 hx (hb hby at_22) (z := 1) rfl (q := 23) rfl ?_
      refine own_goto X0 hx (hb hby at_23) (q := 27) (by decide) (by decide) ?_
      simp only [own_M0_19, if_neg hc19_143] at J146
      exact J146
  obtain ⟨va, eva⟩ : ∃ v, own_M0_19 p1 = own_fl v := by
    rw [own_M0_19]; split
    · exact ⟨false, rfl⟩
    · exact ⟨true, rfl⟩
  rw [eva]
  show own_End p e below s _ _ _ (s₁.setTop (mkF m 27 #[.val (.int p0), .val (.int p1), .val (.int p2), .val (.int p3), .val (.int p4), .val (.int p5), .val (.int (Int32.ofNat N)), .val (.int (Int32.ofNat xa)), .unset, .unset, .unset, .unset, .unset, .unset, .unset, .unset, .unset, .unset, .unset, .unset, .unset] [(.int (own_fl va))]))
  refine own_istore X0 hx (hb hby at_27) (l' := #[.val (.int p0), .val (.int p1), .val (.int p2), .val (.int p3), .val (.int p4), .val (.int p5), .val (.int (Int32.ofNat N)), .val (.int (Int32.ofNat xa)), .val (.int (own_fl va)), .unset, .unset, .unset, .unset, .unset, .unset, .unset, .unset, .unset, .unset, .unset, .unset]) rfl (q := 29) rfl ?_
  refine own_iloadN X0 hx (hb hby at_29) rfl (q := 30) rfl ?_
  refine own_iconst X0 hx (hb hby at_30) (z := 1) rfl (q := 31) rfl ?_
  refine own_iushr X0 hx (hb hby at_31) (q := 32) rfl ?_
  refine own_iload X0 hx (hb hby at_32) rfl (q := 34) rfl ?_
  refine own_irem X0 hx (hb hby at_34) (own_nz N hN) (q := 35) rfl ?_
  obtain ⟨xb, hxb, exb⟩ := own_rem ((p2.toUInt32 >>> ((1 : Int32) &&& 31).toUInt32).toInt32) N hN (own_ush p2)
  rw [exb]
  show own_End p e below s _ _ _ (s₁.setTop (mkF m 35 #[.val (.int p0), .val (.int p1), .val (.int p2), .val (.int p3), .val (.int p4), .val (.int p5), .val (.int (Int32.ofNat N)), .val (.int (Int32.ofNat xa)), .val (.int (own_fl va)), .unset, .unset, .unset, .unset, .unset, .unset, .unset, .unset, .unset, .unset, .unset, .unset] [(.int (Int32.ofNat xb))]))
  refine own_istore X0 hx (hb hby at_35) (l' := #[.val (.int p0), .val (.int p1), .val (.int p2), .val (.int p3), .val (.int p4), .val (.int p5), .val (.int (Int32.ofNat N)), .val (.int (Int32.ofNat xa)), .val (.int (own_fl va)), .val (.int (Int32.ofNat xb)), .unset, .unset, .unset, .unset, .unset, .unset, .unset, .unset, .unset, .unset, .unset]) rfl (q := 37) rfl ?_
  refine own_iloadN X0 hx (hb hby at_37) rfl (q := 38) rfl ?_
  refine own_iconst X0 hx (hb hby at_38) (z := 1) rfl (q := 39) rfl ?_
  refine own_iand X0 hx (hb hby at_39) (q := 40) rfl ?_
  suffices J150 : own_End p e below s (own_Q0 Z p0 p1 p2 p3 p4 p5 h0 n0) room_1.cells room_1.slots (s₁.setTop (mkF m 48 #[.val (.int p0), .val (.int p1), .val (.int p2), .val (.int p3), .val (.int p4), .val (.int p5), .val (.int (Int32.ofNat N)), .val (.int (Int32.ofNat xa)), .val (.int (own_fl va)), .val (.int (Int32.ofNat xb)), .unset, .unset, .unset, .unset, .unset, .unset, .unset, .unset, .unset, .unset, .unset] [(.int (own_M0_40 p2))])) by
    by_cases hc40_147 : (p2 &&& (1 : Int32)) = (0 : Int32)
    · refine own_ifY X0 hx (hb hby at_40) (teq hc40_147).1 (q := 47) (by decide) (by decide) ?_
      refine own_iconst X0 hx (hb hby at_47) (z := 0) rfl (q := 48) rfl ?_
      simp only [own_M0_40, if_pos hc40_147] at J150
      exact J150
    · refine own_ifN X0 hx (hb hby at_40) (feq hc40_147).1 (q := 43) rfl ?_
      refine own_iconst X0 hx (hb hby at_43) (z := 1) rfl (q := 44) rfl ?_
      refine own_goto X0 hx (hb hby at_44) (q := 48) (by decide) (by decide) ?_
      simp only [own_M0_40, if_neg hc40_147] at J150
      exact J150
  obtain ⟨vb, evb⟩ : ∃ v, own_M0_40 p2 = own_fl v := by
    rw [own_M0_40]; split
    · exact ⟨false, rfl⟩
    · exact ⟨true, rfl⟩
  rw [evb]
  show own_End p e below s _ _ _ (s₁.setTop (mkF m 48 #[.val (.int p0), .val (.int p1), .val (.int p2), .val (.int p3), .val (.int p4), .val (.int p5), .val (.int (Int32.ofNat N)), .val (.int (Int32.ofNat xa)), .val (.int (own_fl va)), .val (.int (Int32.ofNat xb)), .unset, .unset, .unset, .unset, .unset, .unset, .unset, .unset, .unset, .unset, .unset] [(.int (own_fl vb))]))
  refine own_istore X0 hx (hb hby at_48) (l' := #[.val (.int p0), .val (.int p1), .val (.int p2), .val (.int p3), .val (.int p4), .val (.int p5), .val (.int (Int32.ofNat N)), .val (.int (Int32.ofNat xa)), .val (.int (own_fl va)), .val (.int (Int32.ofNat xb)), .val (.int (own_fl vb)), .unset, .unset, .unset, .unset, .unset, .unset, .unset, .unset, .unset, .unset]) rfl (q := 50) rfl ?_
  refine own_iloadN X0 hx (hb hby at_50) rfl (q := 51) rfl ?_
  refine own_iconst X0 hx (hb hby at_51) (z := 1) rfl (q := 52) rfl ?_
  refine own_iushr X0 hx (hb hby at_52) (q := 53) rfl ?_
  refine own_iload X0 hx (hb hby at_53) rfl (q := 55) rfl ?_
  refine own_irem X0 hx (hb hby at_55) (own_nz N hN) (q := 56) rfl ?_
  obtain ⟨xc, hxc, exc⟩ := own_rem ((p3.toUInt32 >>> ((1 : Int32) &&& 31).toUInt32).toInt32) N hN (own_ush p3)
  rw [exc]
  show own_End p e below s _ _ _ (s₁.setTop (mkF m 56 #[.val (.int p0), .val (.int p1), .val (.int p2), .val (.int p3), .val (.int p4), .val (.int p5), .val (.int (Int32.ofNat N)), .val (.int (Int32.ofNat xa)), .val (.int (own_fl va)), .val (.int (Int32.ofNat xb)), .val (.int (own_fl vb)), .unset, .unset, .unset, .unset, .unset, .unset, .unset, .unset, .unset, .unset] [(.int (Int32.ofNat xc))]))
  refine own_istore X0 hx (hb hby at_56) (l' := #[.val (.int p0), .val (.int p1), .val (.int p2), .val (.int p3), .val (.int p4), .val (.int p5), .val (.int (Int32.ofNat N)), .val (.int (Int32.ofNat xa)), .val (.int (own_fl va)), .val (.int (Int32.ofNat xb)), .val (.int (own_fl vb)), .val (.int (Int32.ofNat xc)), .unset, .unset, .unset, .unset, .unset, .unset, .unset, .unset, .unset]) rfl (q := 58) rfl ?_
  refine own_iloadN X0 hx (hb hby at_58) rfl (q := 59) rfl ?_
  refine own_iconst X0 hx (hb hby at_59) (z := 1) rfl (q := 60) rfl ?_
  refine own_iand X0 hx (hb hby at_60) (q := 61) rfl ?_
  suffices J154 : own_End p e below s (own_Q0 Z p0 p1 p2 p3 p4 p5 h0 n0) room_1.cells room_1.slots (s₁.setTop (mkF m 69 #[.val (.int p0), .val (.int p1), .val (.int p2), .val (.int p3), .val (.int p4), .val (.int p5), .val (.int (Int32.ofNat N)), .val (.int (Int32.ofNat xa)), .val (.int (own_fl va)), .val (.int (Int32.ofNat xb)), .val (.int (own_fl vb)), .val (.int (Int32.ofNat xc)), .unset, .unset, .unset, .unset, .unset, .unset, .unset, .unset, .unset] [(.int (own_M0_61 p3))])) by
    by_cases hc61_151 : (p3 &&& (1 : Int32)) = (0 : Int32)
    · refine own_ifY X0 hx (hb hby at_61) (teq hc61_151).1 (q := 68) (by decide) (by decide) ?_
      refine own_iconst X0 hx (hb hby at_68) (z := 0) rfl (q := 69) rfl ?_
      simp only [own_M0_61, if_pos hc61_151] at J154
      exact J154
    · refine own_ifN X0 hx (hb hby at_61) (feq hc61_151).1 (q := 64) rfl ?_
      refine own_iconst X0 hx (hb hby at_64) (z := 1) rfl (q := 65) rfl ?_
      refine own_goto X0 hx (hb hby at_65) (q := 69) (by decide) (by decide) ?_
      simp only [own_M0_61, if_neg hc61_151] at J154
      exact J154
  obtain ⟨vc, evc⟩ : ∃ v, own_M0_61 p3 = own_fl v := by
    rw [own_M0_61]; split
    · exact ⟨false, rfl⟩
    · exact ⟨true, rfl⟩
  rw [evc]
  show own_End p e below s _ _ _ (s₁.setTop (mkF m 69 #[.val (.int p0), .val (.int p1), .val (.int p2), .val (.int p3), .val (.int p4), .val (.int p5), .val (.int (Int32.ofNat N)), .val (.int (Int32.ofNat xa)), .val (.int (own_fl va)), .val (.int (Int32.ofNat xb)), .val (.int (own_fl vb)), .val (.int (Int32.ofNat xc)), .unset, .unset, .unset, .unset, .unset, .unset, .unset, .unset, .unset] [(.int (own_fl vc))]))
  refine own_istore X0 hx (hb hby at_69) (l' := #[.val (.int p0), .val (.int p1), .val (.int p2), .val (.int p3), .val (.int p4), .val (.int p5), .val (.int (Int32.ofNat N)), .val (.int (Int32.ofNat xa)), .val (.int (own_fl va)), .val (.int (Int32.ofNat xb)), .val (.int (own_fl vb)), .val (.int (Int32.ofNat xc)), .val (.int (own_fl vc)), .unset, .unset, .unset, .unset, .unset, .unset, .unset, .unset]) rfl (q := 71) rfl ?_
  obtain ⟨T155, h155, X155, e155, E155, A155, D155, -, st155⟩ := newO X0 hx hZ hown (hw _ (List.mem_of_getElem? (i := 0) rfl)) (hw _ (List.mem_of_getElem? (i := 1) rfl)) (hw _ (List.mem_of_getElem? (i := 2) rfl)) e0 (g := (mkF m 71 #[.val (.int p0), .val (.int p1), .val (.int p2), .val (.int p3), .val (.int p4), .val (.int p5), .val (.int (Int32.ofNat N)), .val (.int (Int32.ofNat xa)), .val (.int (own_fl va)), .val (.int (Int32.ofNat xb)), .val (.int (own_fl vb)), .val (.int (Int32.ofNat xc)), .val (.int (own_fl vc)), .unset, .unset, .unset, .unset, .unset, .unset, .unset, .unset] [])) rfl (hb hby at_71) (by decide) (by decide)
  obtain ⟨b155, g155⟩ : ∃ z, z = h0.size := ⟨_, rfl⟩
  have g_b155 : n0 ≤ b155 := Nat.le_trans Z0 (Nat.le_of_eq g155.symm)
  have Z156 := Nat.le_trans Z0 E155.1
  rw [← g155] at A155 D155 st155
  have F_b155_members : Fld Z h155 b155 "com/example/hardy_election/hardyelection/SharedMemory$EnabledSet" "members" "[Z" .null := D155 (Or.inr (hw _ (List.mem_of_getElem? (i := 11) rfl))) (ty := (.array .boolean)) (by decide)
  have F_b155_tree : Fld Z h155 b155 "com/example/hardy_election/hardyelection/SharedMemory$EnabledSet" "tree" "[I" .null := D155 (Or.inr (hw _ (List.mem_of_getElem? (i := 14) rfl))) (ty := (.array .int)) (by decide)
  have F_b155_count : Fld Z h155 b155 "com/example/hardy_election/hardyelection/SharedMemory$EnabledSet" "count" "I" (.int (0 : Int32)) := D155 (Or.inl (hw _ (List.mem_of_getElem? (i := 21) rfl))) (ty := .int) (by decide)
  refine own_back st155 ?_
  show own_End p e below s _ _ _ (T155.setTop (mkF m 74 #[.val (.int p0), .val (.int p1), .val (.int p2), .val (.int p3), .val (.int p4), .val (.int p5), .val (.int (Int32.ofNat N)), .val (.int (Int32.ofNat xa)), .val (.int (own_fl va)), .val (.int (Int32.ofNat xb)), .val (.int (own_fl vb)), .val (.int (Int32.ofNat xc)), .val (.int (own_fl vc)), .unset, .unset, .unset, .unset, .unset, .unset, .unset, .unset] [(.ref b155)]))
  refine own_dup X155 hx (hb hby at_74) rfl (q := 75) rfl ?_
  refine own_iload X155 hx (hb hby at_75) rfl (q := 77) rfl ?_
  obtain ⟨T157, Lc157, L157, X157, N157, hQ157, st157⟩ := own_shutV (val := none) (Q := own_Q1 Z b155 .null .null (0 : Int32) N h155 n0) (rc := 2) (rs := 17) N0 (fun _ _ _ q => ⟨q.1, q.2.1⟩) (X155.specialBack hx (y := (⟨"com/example/hardy_election/hardyelection/SharedMemory$EnabledSet", "<init>", "(I)V"⟩ : MethodName)) rfl hown (mvT hZ (hw _ (List.mem_of_getElem? (i := 3) rfl))) (mvT hZ (hw _ (List.mem_of_getElem? (i := 4) rfl))) (mvT hZ (hw _ (List.mem_of_getElem? (i := 5) rfl))) (by decide) (backOf (W := 1) (own_rm1 l Z a0 hw [] b155 .null .null (0 : Int32) N h155 n0 Z156 A155 F_b155_members F_b155_tree F_b155_count hN g_b155) hZ (hw _ (List.mem_of_getElem? (i := 5) rfl)) (hw _ (List.mem_of_getElem? (i := 2) rfl)) (by decide) (by decide)) (g := (mkF m 77 #[.val (.int p0), .val (.int p1), .val (.int p2), .val (.int p3), .val (.int p4), .val (.int p5), .val (.int (Int32.ofNat N)), .val (.int (Int32.ofNat xa)), .val (.int (own_fl va)), .val (.int (Int32.ofNat xb)), .val (.int (own_fl vb)), .val (.int (Int32.ofNat xc)), .val (.int (own_fl vc)), .unset, .unset, .unset, .unset, .unset, .unset, .unset, .unset] [(.int (Int32.ofNat N)), (.ref b155), (.ref b155)])) rfl (by rw [hml]; rfl) (Steps.refl _) (a := b155) (argsL := [(.int (Int32.ofNat N))]) (rest := [(.ref b155)]) (lenOf own_pd2 rfl) rfl (by show 2 * 0 + _ ≤ _; exact Nat.le_of_eq rfl) (hb hby at_77) (fun _ _ => ⟨rfl, e155, (by decide : 1 + 2 ≤ _), (by decide : 3 + 17 ≤ _)⟩))
  obtain ⟨-, -, K157, b157_0, b157_1, sb157_0, sb157_1, ne_b157_0_b157_1, Q157_0, Q157_1, Q157_2, Q157_3, Q157_4, Q157_5⟩ := hQ157
  have ne_b155_b157_0 : b155 ≠ b157_0 := Nat.ne_of_lt (Nat.lt_of_lt_of_le A155.lt sb157_0)
  have g_b157_0 : n0 ≤ b157_0 := Nat.le_trans Z156 sb157_0
  have ne_b155_b157_1 : b155 ≠ b157_1 := Nat.ne_of_lt (Nat.lt_of_lt_of_le A155.lt sb157_1)
  have g_b157_1 : n0 ≤ b157_1 := Nat.le_trans Z156 sb157_1
  have A155_158 := A155.keep K157
  have Z159 := Nat.le_trans Z156 K157.1
  refine own_via st157 ?_
  show own_End p e below s _ _ _ (T157.setTop (mkF m 80 #[.val (.int p0), .val (.int p1), .val (.int p2), .val (.int p3), .val (.int p4), .val (.int p5), .val (.int (Int32.ofNat N)), .val (.int (Int32.ofNat xa)), .val (.int (own_fl va)), .val (.int (Int32.ofNat xb)), .val (.int (own_fl vb)), .val (.int (Int32.ofNat xc)), .val (.int (own_fl vc)), .unset, .unset, .unset, .unset, .unset, .unset, .unset, .unset] [(.ref b155)]))
  have Fc0 : Fld Z T157.heap b155 "com/example/hardy_election/hardyelection/SharedMemory$EnabledSet" "count" "I" (.int (own_fc 0)) := Q157_3
  refine own_astore X157 hx (hb hby at_80) rfl (l' := #[.val (.int p0), .val (.int p1), .val (.int p2), .val (.int p3), .val (.int p4), .val (.int p5), .val (.int (Int32.ofNat N)), .val (.int (Int32.ofNat xa)), .val (.int (own_fl va)), .val (.int (Int32.ofNat xb)), .val (.int (own_fl vb)), .val (.int (Int32.ofNat xc)), .val (.int (own_fl vc)), .val (.ref b155), .unset, .unset, .unset, .unset, .unset, .unset, .unset]) rfl (q := 82) rfl ?_
  refine own_aload X157 hx (hb hby at_82) rfl rfl (q := 84) rfl ?_
  refine own_iload X157 hx (hb hby at_84) rfl (q := 86) rfl ?_
  refine own_iload X157 hx (hb hby at_86) rfl (q := 88) rfl ?_
  obtain ⟨cq160, kq160, q160a, q160b, q160c⟩ := isOf hZ rfl Q157_0
  obtain ⟨T160, Lc160, L160, X160, N160, hQ160, st160⟩ := own_shutV (val := none) (Q := own_Q3 Z b155 b157_0 b157_1 N 0 xa va T157.heap n0) (rc := 0) (rs := 0) N157 (fun _ _ _ q => ⟨q.1, q.2.1⟩) (X157.virtualBack hx (y := (⟨"com/example/hardy_election/hardyelection/SharedMemory$EnabledSet", "set", "(IZ)V"⟩ : MethodName)) (z := (⟨"com/example/hardy_election/hardyelection/SharedMemory$EnabledSet", "set", "(IZ)V"⟩ : MethodName)) hown (mvT hZ (hw _ (List.mem_of_getElem? (i := 15) rfl))) (mvT hZ (hw _ (List.mem_of_getElem? (i := 16) rfl))) (notFace_of_selects (args := #[]) (mvT hZ (hw _ (List.mem_of_getElem? (i := 18) rfl)))) (mvT hZ (hw _ (List.mem_of_getElem? (i := 18) rfl))) (mvT hZ (hw _ (List.mem_of_getElem? (i := 17) rfl))) (by decide) (backOf (W := 0) (own_rm3 l Z a0 hw [] b155 b157_0 b157_1 N 0 xa va T157.heap n0 Z159 Q157_0 Q157_1 Q157_2 Fc0 Q157_4 Q157_5 ne_b155_b157_0 ne_b155_b157_1 ne_b157_0_b157_1 hN (Nat.two_pow_pos N) hxa g_b155 g_b157_0 g_b157_1) hZ (hw _ (List.mem_of_getElem? (i := 19) rfl)) (hw _ (List.mem_of_getElem? (i := 2) rfl)) (by decide) (by decide)) q160a q160c (g := (mkF m 88 #[.val (.int p0), .val (.int p1), .val (.int p2), .val (.int p3), .val (.int p4), .val (.int p5), .val (.int (Int32.ofNat N)), .val (.int (Int32.ofNat xa)), .val (.int (own_fl va)), .val (.int (Int32.ofNat xb)), .val (.int (own_fl vb)), .val (.int (Int32.ofNat xc)), .val (.int (own_fl vc)), .val (.ref b155), .unset, .unset, .unset, .unset, .unset, .unset, .unset] [(.int (own_fl va)), (.int (Int32.ofNat xa)), (.ref b155)])) rfl (by rw [hml]; rfl) (Steps.refl _) (argsL := [(.int (Int32.ofNat xa)), (.int (own_fl va))]) (rest := []) (lenOf own_pd3 rfl) rfl (by show 2 * 0 + _ ≤ _; exact Nat.le_of_eq rfl) (hb hby at_88) (fun _ _ => ⟨rfl, rfl, (by decide : 3 + 0 ≤ _), (by decide : 20 + 0 ≤ _)⟩))
  obtain ⟨-, -, K160, Q160_0, Q160_1, Q160_2, Q160_3, Q160_4, Q160_5⟩ := hQ160
  have Q157_161 := Q157_0.keep K160
  have Z162 := Nat.le_trans Z159 K160.1
  refine own_via st160 ?_
  show own_End p e below s _ _ _ (T160.setTop (mkF m 91 #[.val (.int p0), .val (.int p1), .val (.int p2), .val (.int p3), .val (.int p4), .val (.int p5), .val (.int (Int32.ofNat N)), .val (.int (Int32.ofNat xa)), .val (.int (own_fl va)), .val (.int (Int32.ofNat xb)), .val (.int (own_fl vb)), .val (.int (Int32.ofNat xc)), .val (.int (own_fl vc)), .val (.ref b155), .unset, .unset, .unset, .unset, .unset, .unset, .unset] []))
  have hM1 : own_sM 0 xa va < 2 ^ N := own_sMlt ⟨N, by omega⟩ ⟨0, own_p8 hN (Nat.two_pow_pos N)⟩ (Nat.two_pow_pos N) ⟨xa, by omega⟩ hxa va
  obtain ⟨M1, eM1⟩ : ∃ z, z = own_sM 0 xa va := ⟨_, rfl⟩
  rw [← eM1] at hM1
  rw [← eM1] at Q160_3
  rw [← eM1] at Q160_4
  rw [← eM1] at Q160_5
  refine own_aload X160 hx (hb hby at_91) rfl rfl (q := 93) rfl ?_
  refine own_iload X160 hx (hb hby at_93) rfl (q := 95) rfl ?_
  refine own_iload X160 hx (hb hby at_95) rfl (q := 97) rfl ?_
  obtain ⟨cq163, kq163, q163a, q163b, q163c⟩ := isOf hZ rfl Q160_0
  obtain ⟨T163, Lc163, L163, X163, N163, hQ163, st163⟩ := own_shutV (val := none) (Q := own_Q3 Z b155 b157_0 b157_1 N M1 xb vb T160.heap n0) (rc := 0) (rs := 0) N160 (fun _ _ _ q => ⟨q.1, q.2.1⟩) (X160.virtualBack hx (y := (⟨"com/example/hardy_election/hardyelection/SharedMemory$EnabledSet", "set", "(IZ)V"⟩ : MethodName)) (z := (⟨"com/example/hardy_election/hardyelection/SharedMemory$EnabledSet", "set", "(IZ)V"⟩ : MethodName)) hown (mvT hZ (hw _ (List.mem_of_getElem? (i := 15) rfl))) (mvT hZ (hw _ (List.mem_of_getElem? (i := 16) rfl))) (notFace_of_selects (args := #[]) (mvT hZ (hw _ (List.mem_of_getElem? (i := 18) rfl)))) (mvT hZ (hw _ (List.mem_of_getElem? (i := 18) rfl))) (mvT hZ (hw _ (List.mem_of_getElem? (i := 17) rfl))) (by decide) (backOf (W := 0) (own_rm3 l Z a0 hw [] b155 b157_0 b157_1 N M1 xb vb T160.heap n0 Z162 Q160_0 Q160_1 Q160_2 Q160_3 Q160_4 Q160_5 ne_b155_b157_0 ne_b155_b157_1 ne_b157_0_b157_1 hN hM1 hxb g_b155 g_b157_0 g_b157_1) hZ (hw _ (List.mem_of_getElem? (i := 19) rfl)) (hw _ (List.mem_of_getElem? (i := 2) rfl)) (by decide) (by decide)) q163a q163c (g := (mkF m 97 #[.val (.int p0), .val (.int p1), .val (.int p2), .val (.int p3), .val (.int p4), .val (.int p5), .val (.int (Int32.ofNat N)), .val (.int (Int32.ofNat xa)), .val (.int (own_fl va)), .val (.int (Int32.ofNat xb)), .val (.int (own_fl vb)), .val (.int (Int32.ofNat xc)), .val (.int (own_fl vc)), .val (.ref b155), .unset, .unset, .unset, .unset, .unset, .unset, .unset] [(.int (own_fl vb)), (.int (Int32.ofNat xb)), (.ref b155)])) rfl (by rw [hml]; rfl) (Steps.refl _) (argsL := [(.int (Int32.ofNat xb)), (.int (own_fl vb))]) (rest := []) (lenOf own_pd3 rfl) rfl (by show 2 * 0 + _ ≤ _; exact Nat.le_of_eq rfl) (hb hby at_97) (fun _ _ => ⟨rfl, rfl, (by decide : 3 + 0 ≤ _), (by decide : 20 + 0 ≤ _)⟩))
  obtain ⟨-, -, K163, Q163_0, Q163_1, Q163_2, Q163_3, Q163_4, Q163_5⟩ := hQ163
  have Q160_164 := Q160_0.keep K163
  have Z165 := Nat.le_trans Z162 K163.1
  refine own_via st163 ?_
  show own_End p e below s _ _ _ (T163.setTop (mkF m 100 #[.val (.int p0), .val (.int p1), .val (.int p2), .val (.int p3), .val (.int p4), .val (.int p5), .val (.int (Int32.ofNat N)), .val (.int (Int32.ofNat xa)), .val (.int (own_fl va)), .val (.int (Int32.ofNat xb)), .val (.int (own_fl vb)), .val (.int (Int32.ofNat xc)), .val (.int (own_fl vc)), .val (.ref b155), .unset, .unset, .unset, .unset, .unset, .unset, .unset] []))
  have hM2 : own_sM M1 xb vb < 2 ^ N := own_sMlt ⟨N, by omega⟩ ⟨M1, own_p8 hN hM1⟩ hM1 ⟨xb, by omega⟩ hxb vb
  obtain ⟨M2, eM2⟩ : ∃ z, z = own_sM M1 xb vb := ⟨_, rfl⟩
  rw [← eM2] at hM2
  rw [← eM2] at Q163_3
  rw [← eM2] at Q163_4
  rw [← eM2] at Q163_5
  refine own_aload X163 hx (hb hby at_100) rfl rfl (q := 102) rfl ?_
  refine own_iload X163 hx (hb hby at_102) rfl (q := 104) rfl ?_
  refine own_iload X163 hx (hb hby at_104) rfl (q := 106) rfl ?_
  obtain ⟨cq166, kq166, q166a, q166b, q166c⟩ := isOf hZ rfl Q163_0
  obtain ⟨T166, Lc166, L166, X166, N166, hQ166, st166⟩ := own_shutV (val := none) (Q := own_Q3 Z b155 b157_0 b157_1 N M2 xc vc T163.heap n0) (rc := 0) (rs := 0) N163 (fun _ _ _ q => ⟨q.1, q.2.1⟩) (X163.virtualBack hx (y := (⟨"com/example/hardy_election/hardyelection/SharedMemory$EnabledSet", "set", "(IZ)V"⟩ : MethodName)) (z := (⟨"com/example/hardy_election/hardyelection/SharedMemory$EnabledSet", "set", "(IZ)V"⟩ : MethodName)) hown (mvT hZ (hw _ (List.mem_of_getElem? (i := 15) rfl))) (mvT hZ (hw _ (List.mem_of_getElem? (i := 16) rfl))) (notFace_of_selects (args := #[]) (mvT hZ (hw _ (List.mem_of_getElem? (i := 18) rfl)))) (mvT hZ (hw _ (List.mem_of_getElem? (i := 18) rfl))) (mvT hZ (hw _ (List.mem_of_getElem? (i := 17) rfl))) (by decide) (backOf (W := 0) (own_rm3 l Z a0 hw [] b155 b157_0 b157_1 N M2 xc vc T163.heap n0 Z165 Q163_0 Q163_1 Q163_2 Q163_3 Q163_4 Q163_5 ne_b155_b157_0 ne_b155_b157_1 ne_b157_0_b157_1 hN hM2 hxc g_b155 g_b157_0 g_b157_1) hZ (hw _ (List.mem_of_getElem? (i := 19) rfl)) (hw _ (List.mem_of_getElem? (i := 2) rfl)) (by decide) (by decide)) q166a q166c (g := (mkF m 106 #[.val (.int p0), .val (.int p1), .val (.int p2), .val (.int p3), .val (.int p4), .val (.int p5), .val (.int (Int32.ofNat N)), .val (.int (Int32.ofNat xa)), .val (.int (own_fl va)), .val (.int (Int32.ofNat xb)), .val (.int (own_fl vb)), .val (.int (Int32.ofNat xc)), .val (.int (own_fl vc)), .val (.ref b155), .unset, .unset, .unset, .unset, .unset, .unset, .unset] [(.int (own_fl vc)), (.int (Int32.ofNat xc)), (.ref b155)])) rfl (by rw [hml]; rfl) (Steps.refl _) (argsL := [(.int (Int32.ofNat xc)), (.int (own_fl vc))]) (rest := []) (lenOf own_pd3 rfl) rfl (by show 2 * 0 + _ ≤ _; exact Nat.le_of_eq rfl) (hb hby at_106) (fun _ _ => ⟨rfl, rfl, (by decide : 3 + 0 ≤ _), (by decide : 20 + 0 ≤ _)⟩))
  obtain ⟨-, -, K166, Q166_0, Q166_1, Q166_2, Q166_3, Q166_4, Q166_5⟩ := hQ166
  have Q163_167 := Q163_0.keep K166
  have Z168 := Nat.le_trans Z165 K166.1
  refine own_via st166 ?_
  show own_End p e below s _ _ _ (T166.setTop (mkF m 109 #[.val (.int p0), .val (.int p1), .val (.int p2), .val (.int p3), .val (.int p4), .val (.int p5), .val (.int (Int32.ofNat N)), .val (.int (Int32.ofNat xa)), .val (.int (own_fl va)), .val (.int (Int32.ofNat xb)), .val (.int (own_fl vb)), .val (.int (Int32.ofNat xc)), .val (.int (own_fl vc)), .val (.ref b155), .unset, .unset, .unset, .unset, .unset, .unset, .unset] []))
  have hM3 : own_sM M2 xc vc < 2 ^ N := own_sMlt ⟨N, by omega⟩ ⟨M2, own_p8 hN hM2⟩ hM2 ⟨xc, by omega⟩ hxc vc
  obtain ⟨M3, eM3⟩ : ∃ z, z = own_sM M2 xc vc := ⟨_, rfl⟩
  rw [← eM3] at hM3
  rw [← eM3] at Q166_3
  rw [← eM3] at Q166_4
  rw [← eM3] at Q166_5
  refine own_iconst X166 hx (hb hby at_109) (z := 0) rfl (q := 110) rfl ?_
  refine own_istore X166 hx (hb hby at_110) (l' := #[.val (.int p0), .val (.int p1), .val (.int p2), .val (.int p3), .val (.int p4), .val (.int p5), .val (.int (Int32.ofNat N)), .val (.int (Int32.ofNat xa)), .val (.int (own_fl va)), .val (.int (Int32.ofNat xb)), .val (.int (own_fl vb)), .val (.int (Int32.ofNat xc)), .val (.int (own_fl vc)), .val (.ref b155), .val (.int (0 : Int32)), .unset, .unset, .unset, .unset, .unset, .unset]) rfl (q := 112) rfl ?_
  refine own_iload X166 hx (hb hby at_112) rfl (q := 114) rfl ?_
  refine own_iload X166 hx (hb hby at_114) rfl (q := 116) rfl ?_
  refine own_iload X166 hx (hb hby at_116) rfl (q := 118) rfl ?_
  obtain ⟨T169, Lc169, L169, X169, N169, hQ169, st169⟩ := own_shutS (val := some (.int (own_F4 (0 : Int32) (Int32.ofNat xa) (own_fl va)))) (Q := own_Q4 Z (0 : Int32) (Int32.ofNat xa) (own_fl va) T166.heap n0) (rc := 0) (rs := 0) N166 (fun _ _ _ q => ⟨q.1, q.2.1⟩) (Jvm.LawKit.callS X166 hx (y := (⟨"com/example/hardy_election/hardyelection/EnabledSetSetPinLaw", "apply", "(IIZ)I"⟩ : MethodName)) hown (mvT hZ (hw _ (List.mem_of_getElem? (i := 22) rfl))) (mvT hZ (hw _ (List.mem_of_getElem? (i := 23) rfl))) (mvT hZ (hw _ (List.mem_of_getElem? (i := 24) rfl))) (mvT hZ (hw _ (List.mem_of_getElem? (i := 25) rfl))) (by decide) (backOf (W := 0) (own_rm4 l Z a0 hw [] (0 : Int32) (Int32.ofNat xa) (own_fl va) T166.heap n0 Z168 ) hZ (hw _ (List.mem_of_getElem? (i := 25) rfl)) (hw _ (List.mem_of_getElem? (i := 24) rfl)) (by decide) (by decide)) (g := (mkF m 118 #[.val (.int p0), .val (.int p1), .val (.int p2), .val (.int p3), .val (.int p4), .val (.int p5), .val (.int (Int32.ofNat N)), .val (.int (Int32.ofNat xa)), .val (.int (own_fl va)), .val (.int (Int32.ofNat xb)), .val (.int (own_fl vb)), .val (.int (Int32.ofNat xc)), .val (.int (own_fl vc)), .val (.ref b155), .val (.int (0 : Int32)), .unset, .unset, .unset, .unset, .unset, .unset] [(.int (own_fl va)), (.int (Int32.ofNat xa)), (.int (0 : Int32))])) rfl (by rw [hml]; rfl) (argsL := [(.int (0 : Int32)), (.int (Int32.ofNat xa)), (.int (own_fl va))]) (rest := []) (lenOf own_pd4 rfl) rfl (by show 2 * 0 + _ ≤ _; exact Nat.le_of_eq rfl) (hb hby at_118) (fun _ _ => ⟨rfl, rfl, (by decide : 3 + 0 ≤ _), (by decide : 20 + 0 ≤ _)⟩))
  obtain ⟨-, -, e169⟩ := hQ169
  refine own_back st169 ?_
  show own_End p e below s _ _ _ (T169.setTop (mkF m 121 #[.val (.int p0), .val (.int p1), .val (.int p2), .val (.int p3), .val (.int p4), .val (.int p5), .val (.int (Int32.ofNat N)), .val (.int (Int32.ofNat xa)), .val (.int (own_fl va)), .val (.int (Int32.ofNat xb)), .val (.int (own_fl vb)), .val (.int (Int32.ofNat xc)), .val (.int (own_fl vc)), .val (.ref b155), .val (.int (0 : Int32)), .unset, .unset, .unset, .unset, .unset, .unset] [(.int (own_F4 (0 : Int32) (Int32.ofNat xa) (own_fl va)))]))
  have ea1 : (own_F4 (0 : Int32) (Int32.ofNat xa) (own_fl va)) = Int32.ofNat M1 := by rw [eM1]; exact own_app ⟨0, own_p8 hN (Nat.two_pow_pos N)⟩ ⟨xa, by omega⟩ va
  rw [ea1]
  show own_End p e below s _ _ _ (T169.setTop (mkF m 121 #[.val (.int p0), .val (.int p1), .val (.int p2), .val (.int p3), .val (.int p4), .val (.int p5), .val (.int (Int32.ofNat N)), .val (.int (Int32.ofNat xa)), .val (.int (own_fl va)), .val (.int (Int32.ofNat xb)), .val (.int (own_fl vb)), .val (.int (Int32.ofNat xc)), .val (.int (own_fl vc)), .val (.ref b155), .val (.int (0 : Int32)), .unset, .unset, .unset, .unset, .unset, .unset] [(.int (Int32.ofNat M1))]))
  refine own_istore X169 hx (hb hby at_121) (l' := #[.val (.int p0), .val (.int p1), .val (.int p2), .val (.int p3), .val (.int p4), .val (.int p5), .val (.int (Int32.ofNat N)), .val (.int (Int32.ofNat xa)), .val (.int (own_fl va)), .val (.int (Int32.ofNat xb)), .val (.int (own_fl vb)), .val (.int (Int32.ofNat xc)), .val (.int (own_fl vc)), .val (.ref b155), .val (.int (Int32.ofNat M1)), .unset, .unset, .unset, .unset, .unset, .unset]) rfl (q := 123) rfl ?_
  refine own_iload X169 hx (hb hby at_123) rfl (q := 125) rfl ?_
  refine own_iload X169 hx (hb hby at_125) rfl (q := 127) rfl ?_
  refine own_iload X169 hx (hb hby at_127) rfl (q := 129) rfl ?_
  obtain ⟨T170, Lc170, L170, X170, N170, hQ170, st170⟩ := own_shutS (val := some (.int (own_F4 (Int32.ofNat M1) (Int32.ofNat xb) (own_fl vb)))) (Q := own_Q4 Z (Int32.ofNat M1) (Int32.ofNat xb) (own_fl vb) T166.heap n0) (rc := 0) (rs := 0) N169 (fun _ _ _ q => ⟨q.1, q.2.1⟩) (Jvm.LawKit.callS X169 hx (y := (⟨"com/example/hardy_election/hardyelection/EnabledSetSetPinLaw", "apply", "(IIZ)I"⟩ : MethodName)) hown (mvT hZ (hw _ (List.mem_of_getElem? (i := 22) rfl))) (mvT hZ (hw _ (List.mem_of_getElem? (i := 23) rfl))) (mvT hZ (hw _ (List.mem_of_getElem? (i := 24) rfl))) (mvT hZ (hw _ (List.mem_of_getElem? (i := 25) rfl))) (by decide) (backOf (W := 0) (own_rm4 l Z a0 hw [] (Int32.ofNat M1) (Int32.ofNat xb) (own_fl vb) T166.heap n0 Z168 ) hZ (hw _ (List.mem_of_getElem? (i := 25) rfl)) (hw _ (List.mem_of_getElem? (i := 24) rfl)) (by decide) (by decide)) (g := (mkF m 129 #[.val (.int p0), .val (.int p1), .val (.int p2), .val (.int p3), .val (.int p4), .val (.int p5), .val (.int (Int32.ofNat N)), .val (.int (Int32.ofNat xa)), .val (.int (own_fl va)), .val (.int (Int32.ofNat xb)), .val (.int (own_fl vb)), .val (.int (Int32.ofNat xc)), .val (.int (own_fl vc)), .val (.ref b155), .val (.int (Int32.ofNat M1)), .unset, .unset, .unset, .unset, .unset, .unset] [(.int (own_fl vb)), (.int (Int32.ofNat xb)), (.int (Int32.ofNat M1))])) rfl (by rw [hml]; rfl) (argsL := [(.int (Int32.ofNat M1)), (.int (Int32.ofNat xb)), (.int (own_fl vb))]) (rest := []) (lenOf own_pd4 rfl) rfl (by show 2 * 0 + _ ≤ _; exact Nat.le_of_eq rfl) (hb hby at_129) (fun _ _ => ⟨rfl, e169, (by decide : 3 + 0 ≤ _), (by decide : 20 + 0 ≤ _)⟩))
  obtain ⟨-, -, e170⟩ := hQ170
  refine own_back st170 ?_
  show own_End p e below s _ _ _ (T170.setTop (mkF m 132 #[.val (.int p0), .val (.int p1), .val (.int p2), .val (.int p3), .val (.int p4), .val (.int p5), .val (.int (Int32.ofNat N)), .val (.int (Int32.ofNat xa)), .val (.int (own_fl va)), .val (.int (Int32.ofNat xb)), .val (.int (own_fl vb)), .val (.int (Int32.ofNat xc)), .val (.int (own_fl vc)), .val (.ref b155), .val (.int (Int32.ofNat M1)), .unset, .unset, .unset, .unset, .unset, .unset] [(.int (own_F4 (Int32.ofNat M1) (Int32.ofNat xb) (own_fl vb)))]))
  have ea2 : (own_F4 (Int32.ofNat M1) (Int32.ofNat xb) (own_fl vb)) = Int32.ofNat M2 := by rw [eM2]; exact own_app ⟨M1, own_p8 hN hM1⟩ ⟨xb, by omega⟩ vb
  rw [ea2]
  show own_End p e below s _ _ _ (T170.setTop (mkF m 132 #[.val (.int p0), .val (.int p1), .val (.int p2), .val (.int p3), .val (.int p4), .val (.int p5), .val (.int (Int32.ofNat N)), .val (.int (Int32.ofNat xa)), .val (.int (own_fl va)), .val (.int (Int32.ofNat xb)), .val (.int (own_fl vb)), .val (.int (Int32.ofNat xc)), .val (.int (own_fl vc)), .val (.ref b155), .val (.int (Int32.ofNat M1)), .unset, .unset, .unset, .unset, .unset, .unset] [(.int (Int32.ofNat M2))]))
  refine own_istore X170 hx (hb hby at_132) (l' := #[.val (.int p0), .val (.int p1), .val (.int p2), .val (.int p3), .val (.int p4), .val (.int p5), .val (.int (Int32.ofNat N)), .val (.int (Int32.ofNat xa)), .val (.int (own_fl va)), .val (.int (Int32.ofNat xb)), .val (.int (own_fl vb)), .val (.int (Int32.ofNat xc)), .val (.int (own_fl vc)), .val (.ref b155), .val (.int (Int32.ofNat M2)), .unset, .unset, .unset, .unset, .unset, .unset]) rfl (q := 134) rfl ?_
  refine own_iload X170 hx (hb hby at_134) rfl (q := 136) rfl ?_
  refine own_iload X170 hx (hb hby at_136) rfl (q := 138) rfl ?_
  refine own_iload X170 hx (hb hby at_138) rfl (q := 140) rfl ?_
  obtain ⟨T171, Lc171, L171, X171, N171, hQ171, st171⟩ := own_shutS (val := some (.int (own_F4 (Int32.ofNat M2) (Int32.ofNat xc) (own_fl vc)))) (Q := own_Q4 Z (Int32.ofNat M2) (Int32.ofNat xc) (own_fl vc) T166.heap n0) (rc := 0) (rs := 0) N170 (fun _ _ _ q => ⟨q.1, q.2.1⟩) (Jvm.LawKit.callS X170 hx (y := (⟨"com/example/hardy_election/hardyelection/EnabledSetSetPinLaw", "apply", "(IIZ)I"⟩ : MethodName)) hown (mvT hZ (hw _ (List.mem_of_getElem? (i := 22) rfl))) (mvT hZ (hw _ (List.mem_of_getElem? (i := 23) rfl))) (mvT hZ (hw _ (List.mem_of_getElem? (i := 24) rfl))) (mvT hZ (hw _ (List.mem_of_getElem? (i := 25) rfl))) (by decide) (backOf (W := 0) (own_rm4 l Z a0 hw [] (Int32.ofNat M2) (Int32.ofNat xc) (own_fl vc) T166.heap n0 Z168 ) hZ (hw _ (List.mem_of_getElem? (i := 25) rfl)) (hw _ (List.mem_of_getElem? (i := 24) rfl)) (by decide) (by decide)) (g := (mkF m 140 #[.val (.int p0), .val (.int p1), .val (.int p2), .val (.int p3), .val (.int p4), .val (.int p5), .val (.int (Int32.ofNat N)), .val (.int (Int32.ofNat xa)), .val (.int (own_fl va)), .val (.int (Int32.ofNat xb)), .val (.int (own_fl vb)), .val (.int (Int32.ofNat xc)), .val (.int (own_fl vc)), .val (.ref b155), .val (.int (Int32.ofNat M2)), .unset, .unset, .unset, .unset, .unset, .unset] [(.int (own_fl vc)), (.int (Int32.ofNat xc)), (.int (Int32.ofNat M2))])) rfl (by rw [hml]; rfl) (argsL := [(.int (Int32.ofNat M2)), (.int (Int32.ofNat xc)), (.int (own_fl vc))]) (rest := []) (lenOf own_pd4 rfl) rfl (by show 2 * 0 + _ ≤ _; exact Nat.le_of_eq rfl) (hb hby at_140) (fun _ _ => ⟨rfl, e170, (by decide : 3 + 0 ≤ _), (by decide : 20 + 0 ≤ _)⟩))
  obtain ⟨-, -, e171⟩ := hQ171
  refine own_back st171 ?_
  show own_End p e below s _ _ _ (T171.setTop (mkF m 143 #[.val (.int p0), .val (.int p1), .val (.int p2), .val (.int p3), .val (.int p4), .val (.int p5), .val (.int (Int32.ofNat N)), .val (.int (Int32.ofNat xa)), .val (.int (own_fl va)), .val (.int (Int32.ofNat xb)), .val (.int (own_fl vb)), .val (.int (Int32.ofNat xc)), .val (.int (own_fl vc)), .val (.ref b155), .val (.int (Int32.ofNat M2)), .unset, .unset, .unset, .unset, .unset, .unset] [(.int (own_F4 (Int32.ofNat M2) (Int32.ofNat xc) (own_fl vc)))]))
  have ea3 : (own_F4 (Int32.ofNat M2) (Int32.ofNat xc) (own_fl vc)) = Int32.ofNat M3 := by rw [eM3]; exact own_app ⟨M2, own_p8 hN hM2⟩ ⟨xc, by omega⟩ vc
  rw [ea3]
  show own_End p e below s _ _ _ (T171.setTop (mkF m 143 #[.val (.int p0), .val (.int p1), .val (.int p2), .val (.int p3), .val (.int p4), .val (.int p5), .val (.int (Int32.ofNat N)), .val (.int (Int32.ofNat xa)), .val (.int (own_fl va)), .val (.int (Int32.ofNat xb)), .val (.int (own_fl vb)), .val (.int (Int32.ofNat xc)), .val (.int (own_fl vc)), .val (.ref b155), .val (.int (Int32.ofNat M2)), .unset, .unset, .unset, .unset, .unset, .unset] [(.int (Int32.ofNat M3))]))
  refine own_istore X171 hx (hb hby at_143) (l' := #[.val (.int p0), .val (.int p1), .val (.int p2), .val (.int p3), .val (.int p4), .val (.int p5), .val (.int (Int32.ofNat N)), .val (.int (Int32.ofNat xa)), .val (.int (own_fl va)), .val (.int (Int32.ofNat xb)), .val (.int (own_fl vb)), .val (.int (Int32.ofNat xc)), .val (.int (own_fl vc)), .val (.ref b155), .val (.int (Int32.ofNat M3)), .unset, .unset, .unset, .unset, .unset, .unset]) rfl (q := 145) rfl ?_
  refine own_iload X171 hx (hb hby at_145) rfl (q := 147) rfl ?_
  obtain ⟨T172, Lc172, L172, X172, N172, hQ172, st172⟩ := own_shutS (val := some (.int (own_F5 (Int32.ofNat M3)))) (Q := own_Q5 Z (Int32.ofNat M3) T166.heap n0) (rc := 0) (rs := 0) N171 (fun _ _ _ q => ⟨q.1, q.2.1⟩) (Jvm.LawKit.callS X171 hx (y := (⟨"com/example/hardy_election/hardyelection/EnabledSetSetPinLaw", "pop", "(I)I"⟩ : MethodName)) hown (mvT hZ (hw _ (List.mem_of_getElem? (i := 26) rfl))) (mvT hZ (hw _ (List.mem_of_getElem? (i := 27) rfl))) (mvT hZ (hw _ (List.mem_of_getElem? (i := 24) rfl))) (mvT hZ (hw _ (List.mem_of_getElem? (i := 28) rfl))) (by decide) (backOf (W := 0) (own_rm5 l Z a0 hw [] (Int32.ofNat M3) T166.heap n0 Z168 ) hZ (hw _ (List.mem_of_getElem? (i := 28) rfl)) (hw _ (List.mem_of_getElem? (i := 24) rfl)) (by decide) (by decide)) (g := (mkF m 147 #[.val (.int p0), .val (.int p1), .val (.int p2), .val (.int p3), .val (.int p4), .val (.int p5), .val (.int (Int32.ofNat N)), .val (.int (Int32.ofNat xa)), .val (.int (own_fl va)), .val (.int (Int32.ofNat xb)), .val (.int (own_fl vb)), .val (.int (Int32.ofNat xc)), .val (.int (own_fl vc)), .val (.ref b155), .val (.int (Int32.ofNat M3)), .unset, .unset, .unset, .unset, .unset, .unset] [(.int (Int32.ofNat M3))])) rfl (by rw [hml]; rfl) (argsL := [(.int (Int32.ofNat M3))]) (rest := []) (lenOf own_pd0 rfl) rfl (by show 2 * 0 + _ ≤ _; exact Nat.le_of_eq rfl) (hb hby at_147) (fun _ _ => ⟨rfl, e171, (by decide : 3 + 0 ≤ _), (by decide : 20 + 0 ≤ _)⟩))
  obtain ⟨-, -, e172⟩ := hQ172
  refine own_back st172 ?_
  show own_End p e below s _ _ _ (T172.setTop (mkF m 150 #[.val (.int p0), .val (.int p1), .val (.int p2), .val (.int p3), .val (.int p4), .val (.int p5), .val (.int (Int32.ofNat N)), .val (.int (Int32.ofNat xa)), .val (.int (own_fl va)), .val (.int (Int32.ofNat xb)), .val (.int (own_fl vb)), .val (.int (Int32.ofNat xc)), .val (.int (own_fl vc)), .val (.ref b155), .val (.int (Int32.ofNat M3)), .unset, .unset, .unset, .unset, .unset, .unset] [(.int (own_F5 (Int32.ofNat M3)))]))
  refine own_istore X172 hx (hb hby at_150) (l' := #[.val (.int p0), .val (.int p1), .val (.int p2), .val (.int p3), .val (.int p4), .val (.int p5), .val (.int (Int32.ofNat N)), .val (.int (Int32.ofNat xa)), .val (.int (own_fl va)), .val (.int (Int32.ofNat xb)), .val (.int (own_fl vb)), .val (.int (Int32.ofNat xc)), .val (.int (own_fl vc)), .val (.ref b155), .val (.int (Int32.ofNat M3)), .val (.int (own_F5 (Int32.ofNat M3))), .unset, .unset, .unset, .unset, .unset]) rfl (q := 152) rfl ?_
  refine own_aload X172 hx (hb hby at_152) rfl rfl (q := 154) rfl ?_
  obtain ⟨cq173, kq173, q173a, q173b, q173c⟩ := isOf hZ e172 Q166_0
  obtain ⟨T173, Lc173, L173, X173, N173, hQ173, st173⟩ := own_shutV (val := some (.int (own_fc M3))) (Q := own_Q6 Z b155 (own_fc M3) T166.heap n0) (rc := 0) (rs := 0) N172 (fun _ _ _ q => ⟨q.1, q.2.1⟩) (X172.virtualBack hx (y := (⟨"com/example/hardy_election/hardyelection/SharedMemory$EnabledSet", "count", "()I"⟩ : MethodName)) (z := (⟨"com/example/hardy_election/hardyelection/SharedMemory$EnabledSet", "count", "()I"⟩ : MethodName)) hown (mvT hZ (hw _ (List.mem_of_getElem? (i := 29) rfl))) (mvT hZ (hw _ (List.mem_of_getElem? (i := 30) rfl))) (notFace_of_selects (args := #[]) (mvT hZ (hw _ (List.mem_of_getElem? (i := 32) rfl)))) (mvT hZ (hw _ (List.mem_of_getElem? (i := 32) rfl))) (mvT hZ (hw _ (List.mem_of_getElem? (i := 31) rfl))) (by decide) (backOf (W := 0) (own_rm6 l Z a0 hw [] b155 (own_fc M3) T166.heap n0 Z168 Q166_0 Q166_3) hZ (hw _ (List.mem_of_getElem? (i := 33) rfl)) (hw _ (List.mem_of_getElem? (i := 2) rfl)) (by decide) (by decide)) q173a q173c (g := (mkF m 154 #[.val (.int p0), .val (.int p1), .val (.int p2), .val (.int p3), .val (.int p4), .val (.int p5), .val (.int (Int32.ofNat N)), .val (.int (Int32.ofNat xa)), .val (.int (own_fl va)), .val (.int (Int32.ofNat xb)), .val (.int (own_fl vb)), .val (.int (Int32.ofNat xc)), .val (.int (own_fl vc)), .val (.ref b155), .val (.int (Int32.ofNat M3)), .val (.int (own_F5 (Int32.ofNat M3))), .unset, .unset, .unset, .unset, .unset] [(.ref b155)])) rfl (by rw [hml]; rfl) (Steps.refl _) (argsL := []) (rest := []) (lenOf own_pd5 rfl) rfl (by show 2 * 0 + _ ≤ _; exact Nat.le_of_eq rfl) (hb hby at_154) (fun _ _ => ⟨rfl, e172, (by decide : 3 + 0 ≤ _), (by decide : 20 + 0 ≤ _)⟩))
  obtain ⟨-, -, e173⟩ := hQ173
  refine own_via st173 ?_
  show own_End p e below s _ _ _ (T173.setTop (mkF m 157 #[.val (.int p0), .val (.int p1), .val (.int p2), .val (.int p3), .val (.int p4), .val (.int p5), .val (.int (Int32.ofNat N)), .val (.int (Int32.ofNat xa)), .val (.int (own_fl va)), .val (.int (Int32.ofNat xb)), .val (.int (own_fl vb)), .val (.int (Int32.ofNat xc)), .val (.int (own_fl vc)), .val (.ref b155), .val (.int (Int32.ofNat M3)), .val (.int (own_F5 (Int32.ofNat M3))), .unset, .unset, .unset, .unset, .unset] [(.int (own_fc M3))]))
  refine own_iload X173 hx (hb hby at_157) rfl (q := 159) rfl ?_
  have hk174 : (own_fc M3) = (own_F5 (Int32.ofNat M3)) := (own_popc ⟨M3, own_p8 hN hM3⟩).symm
  refine own_icY X173 hx (hb hby at_159) (teq hk174).1 (q := 164) (by decide) (by decide) ?_
  refine own_iconst X173 hx (hb hby at_164) (z := 0) rfl (q := 165) rfl ?_
  refine own_istore X173 hx (hb hby at_165) (l' := #[.val (.int p0), .val (.int p1), .val (.int p2), .val (.int p3), .val (.int p4), .val (.int p5), .val (.int (Int32.ofNat N)), .val (.int (Int32.ofNat xa)), .val (.int (own_fl va)), .val (.int (Int32.ofNat xb)), .val (.int (own_fl vb)), .val (.int (Int32.ofNat xc)), .val (.int (own_fl vc)), .val (.ref b155), .val (.int (Int32.ofNat M3)), .val (.int (own_F5 (Int32.ofNat M3))), .val (.int (0 : Int32)), .unset, .unset, .unset, .unset]) rfl (q := 167) rfl ?_
  refine own_iload X173 hx (hb hby at_167) rfl (q := 169) rfl ?_
  by_cases hc169_175 : (0 : Int32) < p4
  · refine own_ifN X173 hx (hb hby at_169) (tlt hc169_175).2.2.2 (q := 172) rfl ?_
    refine own_iload X173 hx (hb hby at_172) rfl (q := 174) rfl ?_
    refine own_iload X173 hx (hb hby at_174) rfl (q := 176) rfl ?_
    obtain ⟨T176, Lc176, L176, X176, N176, hQ176, st176⟩ := own_shutS (val := some (.int (own_F8 p4 (Int32.ofNat N)))) (Q := own_Q8 Z p4 (Int32.ofNat N) T166.heap n0) (rc := 0) (rs := 0) N173 (fun _ _ _ q => ⟨q.1, q.2.1⟩) (Jvm.LawKit.callS X173 hx (y := (⟨"java/lang/Math", "min", "(II)I"⟩ : MethodName)) hown (mvT hZ (hw _ (List.mem_of_getElem? (i := 63) rfl))) (mvT hZ (hw _ (List.mem_of_getElem? (i := 40) rfl))) (mvT hZ (hw _ (List.mem_of_getElem? (i := 41) rfl))) (mvT hZ (hw _ (List.mem_of_getElem? (i := 42) rfl))) (by decide) (backOf (W := 0) (own_rm8 l Z a0 hw [] p4 (Int32.ofNat N) T166.heap n0 Z168 ) hZ (hw _ (List.mem_of_getElem? (i := 42) rfl)) (hw _ (List.mem_of_getElem? (i := 41) rfl)) (by decide) (by decide)) (g := (mkF m 176 #[.val (.int p0), .val (.int p1), .val (.int p2), .val (.int p3), .val (.int p4), .val (.int p5), .val (.int (Int32.ofNat N)), .val (.int (Int32.ofNat xa)), .val (.int (own_fl va)), .val (.int (Int32.ofNat xb)), .val (.int (own_fl vb)), .val (.int (Int32.ofNat xc)), .val (.int (own_fl vc)), .val (.ref b155), .val (.int (Int32.ofNat M3)), .val (.int (own_F5 (Int32.ofNat M3))), .val (.int (0 : Int32)), .unset, .unset, .unset, .unset] [(.int (Int32.ofNat N)), (.int p4)])) rfl (by rw [hml]; rfl) (argsL := [(.int p4), (.int (Int32.ofNat N))]) (rest := []) (lenOf own_pd1 rfl) rfl (by show 2 * 0 + _ ≤ _; exact Nat.le_of_eq rfl) (hb hby at_176) (fun _ _ => ⟨rfl, e173, (by decide : 3 + 0 ≤ _), (by decide : 20 + 0 ≤ _)⟩))
    obtain ⟨-, -, e176⟩ := hQ176
    refine own_back st176 ?_
    show own_End p e below s _ _ _ (T176.setTop (mkF m 179 #[.val (.int p0), .val (.int p1), .val (.int p2), .val (.int p3), .val (.int p4), .val (.int p5), .val (.int (Int32.ofNat N)), .val (.int (Int32.ofNat xa)), .val (.int (own_fl va)), .val (.int (Int32.ofNat xb)), .val (.int (own_fl vb)), .val (.int (Int32.ofNat xc)), .val (.int (own_fl vc)), .val (.ref b155), .val (.int (Int32.ofNat M3)), .val (.int (own_F5 (Int32.ofNat M3))), .val (.int (0 : Int32)), .unset, .unset, .unset, .unset] [(.int (own_F8 p4 (Int32.ofNat N)))]))
    obtain ⟨j, hj, ej⟩ := own_min p4 N hN hc169_175
    rw [ej]
    show own_End p e below s _ _ _ (T176.setTop (mkF m 179 #[.val (.int p0), .val (.int p1), .val (.int p2), .val (.int p3), .val (.int p4), .val (.int p5), .val (.int (Int32.ofNat N)), .val (.int (Int32.ofNat xa)), .val (.int (own_fl va)), .val (.int (Int32.ofNat xb)), .val (.int (own_fl vb)), .val (.int (Int32.ofNat xc)), .val (.int (own_fl vc)), .val (.ref b155), .val (.int (Int32.ofNat M3)), .val (.int (own_F5 (Int32.ofNat M3))), .val (.int (0 : Int32)), .unset, .unset, .unset, .unset] [(.int (Int32.ofNat j))]))
    refine own_istore X176 hx (hb hby at_179) (l' := #[.val (.int p0), .val (.int p1), .val (.int p2), .val (.int p3), .val (.int p4), .val (.int p5), .val (.int (Int32.ofNat N)), .val (.int (Int32.ofNat xa)), .val (.int (own_fl va)), .val (.int (Int32.ofNat xb)), .val (.int (own_fl vb)), .val (.int (Int32.ofNat xc)), .val (.int (own_fl vc)), .val (.ref b155), .val (.int (Int32.ofNat M3)), .val (.int (own_F5 (Int32.ofNat M3))), .val (.int (0 : Int32)), .val (.int (Int32.ofNat j)), .unset, .unset, .unset]) rfl (q := 181) rfl ?_
    refine own_iload X176 hx (hb hby at_181) rfl (q := 183) rfl ?_
    refine own_iconst X176 hx (hb hby at_183) (z := 1) rfl (q := 184) rfl ?_
    refine own_iload X176 hx (hb hby at_184) rfl (q := 186) rfl ?_
    refine own_ishl X176 hx (hb hby at_186) (q := 187) rfl ?_
    refine own_iconst X176 hx (hb hby at_187) (z := 1) rfl (q := 188) rfl ?_
    refine own_isub X176 hx (hb hby at_188) (q := 189) rfl ?_
    refine own_iand X176 hx (hb hby at_189) (q := 190) rfl ?_
    obtain ⟨T177, Lc177, L177, X177, N177, hQ177, st177⟩ := own_shutS (val := some (.int (own_F5 ((Int32.ofNat M3) &&& (((1 : Int32) <<< ((Int32.ofNat j) &&& 31)) - (1 : Int32)))))) (Q := own_Q5 Z ((Int32.ofNat M3) &&& (((1 : Int32) <<< ((Int32.ofNat j) &&& 31)) - (1 : Int32))) T166.heap n0) (rc := 0) (rs := 0) N176 (fun _ _ _ q => ⟨q.1, q.2.1⟩) (Jvm.LawKit.callS X176 hx (y := (⟨"com/example/hardy_election/hardyelection/EnabledSetSetPinLaw", "pop", "(I)I"⟩ : MethodName)) hown (mvT hZ (hw _ (List.mem_of_getElem? (i := 26) rfl))) (mvT hZ (hw _ (List.mem_of_getElem? (i := 27) rfl))) (mvT hZ (hw _ (List.mem_of_getElem? (i := 24) rfl))) (mvT hZ (hw _ (List.mem_of_getElem? (i := 28) rfl))) (by decide) (backOf (W := 0) (own_rm5 l Z a0 hw [] ((Int32.ofNat M3) &&& (((1 : Int32) <<< ((Int32.ofNat j) &&& 31)) - (1 : Int32))) T166.heap n0 Z168 ) hZ (hw _ (List.mem_of_getElem? (i := 28) rfl)) (hw _ (List.mem_of_getElem? (i := 24) rfl)) (by decide) (by decide)) (g := (mkF m 190 #[.val (.int p0), .val (.int p1), .val (.int p2), .val (.int p3), .val (.int p4), .val (.int p5), .val (.int (Int32.ofNat N)), .val (.int (Int32.ofNat xa)), .val (.int (own_fl va)), .val (.int (Int32.ofNat xb)), .val (.int (own_fl vb)), .val (.int (Int32.ofNat xc)), .val (.int (own_fl vc)), .val (.ref b155), .val (.int (Int32.ofNat M3)), .val (.int (own_F5 (Int32.ofNat M3))), .val (.int (0 : Int32)), .val (.int (Int32.ofNat j)), .unset, .unset, .unset] [(.int ((Int32.ofNat M3) &&& (((1 : Int32) <<< ((Int32.ofNat j) &&& 31)) - (1 : Int32))))])) rfl (by rw [hml]; rfl) (argsL := [(.int ((Int32.ofNat M3) &&& (((1 : Int32) <<< ((Int32.ofNat j) &&& 31)) - (1 : Int32))))]) (rest := []) (lenOf own_pd0 rfl) rfl (by show 2 * 0 + _ ≤ _; exact Nat.le_of_eq rfl) (hb hby at_190) (fun _ _ => ⟨rfl, e176, (by decide : 3 + 0 ≤ _), (by decide : 20 + 0 ≤ _)⟩))
    obtain ⟨-, -, e177⟩ := hQ177
    refine own_back st177 ?_
    show own_End p e below s _ _ _ (T177.setTop (mkF m 193 #[.val (.int p0), .val (.int p1), .val (.int p2), .val (.int p3), .val (.int p4), .val (.int p5), .val (.int (Int32.ofNat N)), .val (.int (Int32.ofNat xa)), .val (.int (own_fl va)), .val (.int (Int32.ofNat xb)), .val (.int (own_fl vb)), .val (.int (Int32.ofNat xc)), .val (.int (own_fl vc)), .val (.ref b155), .val (.int (Int32.ofNat M3)), .val (.int (own_F5 (Int32.ofNat M3))), .val (.int (0 : Int32)), .val (.int (Int32.ofNat j)), .unset, .unset, .unset] [(.int (own_F5 ((Int32.ofNat M3) &&& (((1 : Int32) <<< ((Int32.ofNat j) &&& 31)) - (1 : Int32)))))]))
    refine own_istore X177 hx (hb hby at_193) (l' := #[.val (.int p0), .val (.int p1), .val (.int p2), .val (.int p3), .val (.int p4), .val (.int p5), .val (.int (Int32.ofNat N)), .val (.int (Int32.ofNat xa)), .val (.int (own_fl va)), .val (.int (Int32.ofNat xb)), .val (.int (own_fl vb)), .val (.int (Int32.ofNat xc)), .val (.int (own_fl vc)), .val (.ref b155), .val (.int (Int32.ofNat M3)), .val (.int (own_F5 (Int32.ofNat M3))), .val (.int (own_F5 ((Int32.ofNat M3) &&& (((1 : Int32) <<< ((Int32.ofNat j) &&& 31)) - (1 : Int32))))), .val (.int (Int32.ofNat j)), .unset, .unset, .unset]) rfl (q := 195) rfl ?_
    refine own_aload X177 hx (hb hby at_195) rfl rfl (q := 197) rfl ?_
    refine own_iload X177 hx (hb hby at_197) rfl (q := 199) rfl ?_
    obtain ⟨cq178, kq178, q178a, q178b, q178c⟩ := isOf hZ e177 Q166_0
    obtain ⟨T178, Lc178, L178, X178, N178, hQ178, st178⟩ := own_shutV (val := some (.int (own_sum (own_ft M3) 9 (own_F8 p4 (Int32.ofNat N)) (0 : Int32)))) (Q := own_Q7 Z b155 p4 b157_0 b157_1 N M3 T166.heap n0) (rc := 0) (rs := 0) N177 (fun _ _ _ q => ⟨q.1, q.2.1⟩) (X177.virtualBack hx (y := (⟨"com/example/hardy_election/hardyelection/SharedMemory$EnabledSet", "countBelow", "(I)I"⟩ : MethodName)) (z := (⟨"com/example/hardy_election/hardyelection/SharedMemory$EnabledSet", "countBelow", "(I)I"⟩ : MethodName)) hown (mvT hZ (hw _ (List.mem_of_getElem? (i := 34) rfl))) (mvT hZ (hw _ (List.mem_of_getElem? (i := 35) rfl))) (notFace_of_selects (args := #[]) (mvT hZ (hw _ (List.mem_of_getElem? (i := 37) rfl)))) (mvT hZ (hw _ (List.mem_of_getElem? (i := 37) rfl))) (mvT hZ (hw _ (List.mem_of_getElem? (i := 36) rfl))) (by decide) (backOf (W := 0) (own_rm7 l Z a0 hw [] b155 p4 b157_0 b157_1 N M3 T166.heap n0 Z168 Q166_0 Q166_1 Q166_2 Q166_4 Q166_5 hN (by rw [ej]; exact own_down ⟨N, by omega⟩ ⟨j, by omega⟩ hj)) hZ (hw _ (List.mem_of_getElem? (i := 38) rfl)) (hw _ (List.mem_of_getElem? (i := 2) rfl)) (by decide) (by decide)) q178a q178c (g := (mkF m 199 #[.val (.int p0), .val (.int p1), .val (.int p2), .val (.int p3), .val (.int p4), .val (.int p5), .val (.int (Int32.ofNat N)), .val (.int (Int32.ofNat xa)), .val (.int (own_fl va)), .val (.int (Int32.ofNat xb)), .val (.int (own_fl vb)), .val (.int (Int32.ofNat xc)), .val (.int (own_fl vc)), .val (.ref b155), .val (.int (Int32.ofNat M3)), .val (.int (own_F5 (Int32.ofNat M3))), .val (.int (own_F5 ((Int32.ofNat M3) &&& (((1 : Int32) <<< ((Int32.ofNat j) &&& 31)) - (1 : Int32))))), .val (.int (Int32.ofNat j)), .unset, .unset, .unset] [(.int p4), (.ref b155)])) rfl (by rw [hml]; rfl) (Steps.refl _) (argsL := [(.int p4)]) (rest := []) (lenOf own_pd0 rfl) rfl (by show 2 * 0 + _ ≤ _; exact Nat.le_of_eq rfl) (hb hby at_199) (fun _ _ => ⟨rfl, e177, (by decide : 3 + 0 ≤ _), (by decide : 20 + 0 ≤ _)⟩))
    obtain ⟨-, -, e178⟩ := hQ178
    refine own_via st178 ?_
    show own_End p e below s _ _ _ (T178.setTop (mkF m 202 #[.val (.int p0), .val (.int p1), .val (.int p2), .val (.int p3), .val (.int p4), .val (.int p5), .val (.int (Int32.ofNat N)), .val (.int (Int32.ofNat xa)), .val (.int (own_fl va)), .val (.int (Int32.ofNat xb)), .val (.int (own_fl vb)), .val (.int (Int32.ofNat xc)), .val (.int (own_fl vc)), .val (.ref b155), .val (.int (Int32.ofNat M3)), .val (.int (own_F5 (Int32.ofNat M3))), .val (.int (own_F5 ((Int32.ofNat M3) &&& (((1 : Int32) <<< ((Int32.ofNat j) &&& 31)) - (1 : Int32))))), .val (.int (Int32.ofNat j)), .unset, .unset, .unset] [(.int (own_sum (own_ft M3) 9 (own_F8 p4 (Int32.ofNat N)) (0 : Int32)))]))
    refine own_iload X178 hx (hb hby at_202) rfl (q := 204) rfl ?_
    have hk179 : (own_sum (own_ft M3) 9 (own_F8 p4 (Int32.ofNat N)) (0 : Int32)) = (own_F5 ((Int32.ofNat M3) &&& (((1 : Int32) <<< ((Int32.ofNat j) &&& 31)) - (1 : Int32)))) := by rw [ej]; exact own_below ⟨M3, own_p8 hN hM3⟩ ⟨j, by omega⟩
    refine own_icY X178 hx (hb hby at_204) (teq hk179).1 (q := 209) (by decide) (by decide) ?_
    refine own_iload X178 hx (hb hby at_209) rfl (q := 211) rfl ?_
    refine own_back (X178.ldcInt hx hown (mvT hZ (hw _ (List.mem_of_getElem? (i := 43) rfl))) (g := (mkF m 211 #[.val (.int p0), .val (.int p1), .val (.int p2), .val (.int p3), .val (.int p4), .val (.int p5), .val (.int (Int32.ofNat N)), .val (.int (Int32.ofNat xa)), .val (.int (own_fl va)), .val (.int (Int32.ofNat xb)), .val (.int (own_fl vb)), .val (.int (Int32.ofNat xc)), .val (.int (own_fl vc)), .val (.ref b155), .val (.int (Int32.ofNat M3)), .val (.int (own_F5 (Int32.ofNat M3))), .val (.int (own_F5 ((Int32.ofNat M3) &&& (((1 : Int32) <<< ((Int32.ofNat j) &&& 31)) - (1 : Int32))))), .val (.int (Int32.ofNat j)), .unset, .unset, .unset] [(.int p4)])) rfl (hb hby at_211)) ?_
    show own_End p e below s _ _ _ (T178.setTop (mkF m 213 #[.val (.int p0), .val (.int p1), .val (.int p2), .val (.int p3), .val (.int p4), .val (.int p5), .val (.int (Int32.ofNat N)), .val (.int (Int32.ofNat xa)), .val (.int (own_fl va)), .val (.int (Int32.ofNat xb)), .val (.int (own_fl vb)), .val (.int (Int32.ofNat xc)), .val (.int (own_fl vc)), .val (.ref b155), .val (.int (Int32.ofNat M3)), .val (.int (own_F5 (Int32.ofNat M3))), .val (.int (own_F5 ((Int32.ofNat M3) &&& (((1 : Int32) <<< ((Int32.ofNat j) &&& 31)) - (1 : Int32))))), .val (.int (Int32.ofNat j)), .unset, .unset, .unset] [(.int (2147483647 : Int32)), (.int p4)]))
    refine own_iand X178 hx (hb hby at_213) (q := 214) rfl ?_
    refine own_iload X178 hx (hb hby at_214) rfl (q := 216) rfl ?_
    refine own_irem X178 hx (hb hby at_216) (own_nz N hN) (q := 217) rfl ?_
    obtain ⟨y, hy, ey⟩ := own_rem (p4 &&& (2147483647 : Int32)) N hN (own_msk p4)
    rw [ey]
    show own_End p e below s _ _ _ (T178.setTop (mkF m 217 #[.val (.int p0), .val (.int p1), .val (.int p2), .val (.int p3), .val (.int p4), .val (.int p5), .val (.int (Int32.ofNat N)), .val (.int (Int32.ofNat xa)), .val (.int (own_fl va)), .val (.int (Int32.ofNat xb)), .val (.int (own_fl vb)), .val (.int (Int32.ofNat xc)), .val (.int (own_fl vc)), .val (.ref b155), .val (.int (Int32.ofNat M3)), .val (.int (own_F5 (Int32.ofNat M3))), .val (.int (own_F5 ((Int32.ofNat M3) &&& (((1 : Int32) <<< ((Int32.ofNat j) &&& 31)) - (1 : Int32))))), .val (.int (Int32.ofNat j)), .unset, .unset, .unset] [(.int (Int32.ofNat y))]))
    refine own_istore X178 hx (hb hby at_217) (l' := #[.val (.int p0), .val (.int p1), .val (.int p2), .val (.int p3), .val (.int p4), .val (.int p5), .val (.int (Int32.ofNat N)), .val (.int (Int32.ofNat xa)), .val (.int (own_fl va)), .val (.int (Int32.ofNat xb)), .val (.int (own_fl vb)), .val (.int (Int32.ofNat xc)), .val (.int (own_fl vc)), .val (.ref b155), .val (.int (Int32.ofNat M3)), .val (.int (own_F5 (Int32.ofNat M3))), .val (.int (own_F5 ((Int32.ofNat M3) &&& (((1 : Int32) <<< ((Int32.ofNat j) &&& 31)) - (1 : Int32))))), .val (.int (Int32.ofNat y)), .unset, .unset, .unset]) rfl (q := 219) rfl ?_
    refine own_iload X178 hx (hb hby at_219) rfl (q := 221) rfl ?_
    refine own_iload X178 hx (hb hby at_221) rfl (q := 223) rfl ?_
    refine own_ishr X178 hx (hb hby at_223) (q := 224) rfl ?_
    refine own_iconst X178 hx (hb hby at_224) (z := 1) rfl (q := 225) rfl ?_
    refine own_iand X178 hx (hb hby at_225) (q := 226) rfl ?_
    refine own_iconst X178 hx (hb hby at_226) (z := 1) rfl (q := 227) rfl ?_
    suffices J183 : own_End p e below s (own_Q0 Z p0 p1 p2 p3 p4 p5 h0 n0) room_1.cells room_1.slots (T178.setTop (mkF m 235 #[.val (.int p0), .val (.int p1), .val (.int p2), .val (.int p3), .val (.int p4), .val (.int p5), .val (.int (Int32.ofNat N)), .val (.int (Int32.ofNat xa)), .val (.int (own_fl va)), .val (.int (Int32.ofNat xb)), .val (.int (own_fl vb)), .val (.int (Int32.ofNat xc)), .val (.int (own_fl vc)), .val (.ref b155), .val (.int (Int32.ofNat M3)), .val (.int (own_F5 (Int32.ofNat M3))), .val (.int (own_F5 ((Int32.ofNat M3) &&& (((1 : Int32) <<< ((Int32.ofNat j) &&& 31)) - (1 : Int32))))), .val (.int (Int32.ofNat y)), .unset, .unset, .unset] [(.int (own_M0_227 M3 y))])) by
      by_cases hc227_180 : (((Int32.ofNat M3) >>> ((Int32.ofNat y) &&& 31)) &&& (1 : Int32)) = (1 : Int32)
      · refine own_icN X178 hx (hb hby at_227) (teq hc227_180).2 (q := 230) rfl ?_
        refine own_iconst X178 hx (hb hby at_230) (z := 1) rfl (q := 231) rfl ?_
        refine own_goto X178 hx (hb hby at_231) (q := 235) (by decide) (by decide) ?_
        simp only [own_M0_227, if_pos hc227_180] at J183
        exact J183
      · refine own_icY X178 hx (hb hby at_227) (feq hc227_180).2 (q := 234) (by decide) (by decide) ?_
        refine own_iconst X178 hx (hb hby at_234) (z := 0) rfl (q := 235) rfl ?_
        simp only [own_M0_227, if_neg hc227_180] at J183
        exact J183
    refine own_istore X178 hx (hb hby at_235) (l' := #[.val (.int p0), .val (.int p1), .val (.int p2), .val (.int p3), .val (.int p4), .val (.int p5), .val (.int (Int32.ofNat N)), .val (.int (Int32.ofNat xa)), .val (.int (own_fl va)), .val (.int (Int32.ofNat xb)), .val (.int (own_fl vb)), .val (.int (Int32.ofNat xc)), .val (.int (own_fl vc)), .val (.ref b155), .val (.int (Int32.ofNat M3)), .val (.int (own_F5 (Int32.ofNat M3))), .val (.int (own_F5 ((Int32.ofNat M3) &&& (((1 : Int32) <<< ((Int32.ofNat j) &&& 31)) - (1 : Int32))))), .val (.int (Int32.ofNat y)), .val (.int (own_M0_227 M3 y)), .unset, .unset]) rfl (q := 237) rfl ?_
    refine own_aload X178 hx (hb hby at_237) rfl rfl (q := 239) rfl ?_
    refine own_iload X178 hx (hb hby at_239) rfl (q := 241) rfl ?_
    obtain ⟨cq184, kq184, q184a, q184b, q184c⟩ := isOf hZ e178 Q166_0
    obtain ⟨T184, Lc184, L184, X184, N184, hQ184, st184⟩ := own_shutV (val := some (.int ((own_bt M3 y) &&& 1))) (Q := own_Q9 Z b155 b157_0 N M3 y T166.heap n0) (rc := 0) (rs := 0) N178 (fun _ _ _ q => ⟨q.1, q.2.1⟩) (X178.virtualBack hx (y := (⟨"com/example/hardy_election/hardyelection/SharedMemory$EnabledSet", "contains", "(I)Z"⟩ : MethodName)) (z := (⟨"com/example/hardy_election/hardyelection/SharedMemory$EnabledSet", "contains", "(I)Z"⟩ : MethodName)) hown (mvT hZ (hw _ (List.mem_of_getElem? (i := 44) rfl))) (mvT hZ (hw _ (List.mem_of_getElem? (i := 45) rfl))) (notFace_of_selects (args := #[]) (mvT hZ (hw _ (List.mem_of_getElem? (i := 47) rfl)))) (mvT hZ (hw _ (List.mem_of_getElem? (i := 47) rfl))) (mvT hZ (hw _ (List.mem_of_getElem? (i := 46) rfl))) (by decide) (backOf (W := 0) (own_rm9 l Z a0 hw [] b155 b157_0 N M3 y T166.heap n0 Z168 Q166_0 Q166_1 Q166_4 hN hy) hZ (hw _ (List.mem_of_getElem? (i := 48) rfl)) (hw _ (List.mem_of_getElem? (i := 2) rfl)) (by decide) (by decide)) q184a q184c (g := (mkF m 241 #[.val (.int p0), .val (.int p1), .val (.int p2), .val (.int p3), .val (.int p4), .val (.int p5), .val (.int (Int32.ofNat N)), .val (.int (Int32.ofNat xa)), .val (.int (own_fl va)), .val (.int (Int32.ofNat xb)), .val (.int (own_fl vb)), .val (.int (Int32.ofNat xc)), .val (.int (own_fl vc)), .val (.ref b155), .val (.int (Int32.ofNat M3)), .val (.int (own_F5 (Int32.ofNat M3))), .val (.int (own_F5 ((Int32.ofNat M3) &&& (((1 : Int32) <<< ((Int32.ofNat j) &&& 31)) - (1 : Int32))))), .val (.int (Int32.ofNat y)), .val (.int (own_M0_227 M3 y)), .unset, .unset] [(.int (Int32.ofNat y)), (.ref b155)])) rfl (by rw [hml]; rfl) (Steps.refl _) (argsL := [(.int (Int32.ofNat y))]) (rest := []) (lenOf own_pd6 rfl) rfl (by show 2 * 0 + _ ≤ _; exact Nat.le_of_eq rfl) (hb hby at_241) (fun _ _ => ⟨rfl, e178, (by decide : 3 + 0 ≤ _), (by decide : 20 + 0 ≤ _)⟩))
    obtain ⟨-, -, e184⟩ := hQ184
    refine own_via st184 ?_
    show own_End p e below s _ _ _ (T184.setTop (mkF m 244 #[.val (.int p0), .val (.int p1), .val (.int p2), .val (.int p3), .val (.int p4), .val (.int p5), .val (.int (Int32.ofNat N)), .val (.int (Int32.ofNat xa)), .val (.int (own_fl va)), .val (.int (Int32.ofNat xb)), .val (.int (own_fl vb)), .val (.int (Int32.ofNat xc)), .val (.int (own_fl vc)), .val (.ref b155), .val (.int (Int32.ofNat M3)), .val (.int (own_F5 (Int32.ofNat M3))), .val (.int (own_F5 ((Int32.ofNat M3) &&& (((1 : Int32) <<< ((Int32.ofNat j) &&& 31)) - (1 : Int32))))), .val (.int (Int32.ofNat y)), .val (.int (own_M0_227 M3 y)), .unset, .unset] [(.int ((own_bt M3 y) &&& 1))]))
    refine own_iload X184 hx (hb hby at_244) rfl (q := 246) rfl ?_
    have hk185 : ((own_bt M3 y) &&& 1) = (own_M0_227 M3 y) := by rw [own_M0_227]; exact own_has ⟨M3, own_p8 hN hM3⟩ ⟨y, by omega⟩
    refine own_icY X184 hx (hb hby at_246) (teq hk185).1 (q := 251) (by decide) (by decide) ?_
    refine own_iload X184 hx (hb hby at_251) rfl (q := 253) rfl ?_
    by_cases hc253_186 : (0 : Int32) < (own_F5 (Int32.ofNat M3))
    · refine own_ifN X184 hx (hb hby at_253) (tlt hc253_186).2.2.2 (q := 256) rfl ?_
      refine own_iload X184 hx (hb hby at_256) rfl (q := 258) rfl ?_
      refine own_back (X184.ldcInt hx hown (mvT hZ (hw _ (List.mem_of_getElem? (i := 43) rfl))) (g := (mkF m 258 #[.val (.int p0), .val (.int p1), .val (.int p2), .val (.int p3), .val (.int p4), .val (.int p5), .val (.int (Int32.ofNat N)), .val (.int (Int32.ofNat xa)), .val (.int (own_fl va)), .val (.int (Int32.ofNat xb)), .val (.int (own_fl vb)), .val (.int (Int32.ofNat xc)), .val (.int (own_fl vc)), .val (.ref b155), .val (.int (Int32.ofNat M3)), .val (.int (own_F5 (Int32.ofNat M3))), .val (.int (own_F5 ((Int32.ofNat M3) &&& (((1 : Int32) <<< ((Int32.ofNat j) &&& 31)) - (1 : Int32))))), .val (.int (Int32.ofNat y)), .val (.int (own_M0_227 M3 y)), .unset, .unset] [(.int p5)])) rfl (hb hby at_258)) ?_
      show own_End p e below s _ _ _ (T184.setTop (mkF m 260 #[.val (.int p0), .val (.int p1), .val (.int p2), .val (.int p3), .val (.int p4), .val (.int p5), .val (.int (Int32.ofNat N)), .val (.int (Int32.ofNat xa)), .val (.int (own_fl va)), .val (.int (Int32.ofNat xb)), .val (.int (own_fl vb)), .val (.int (Int32.ofNat xc)), .val (.int (own_fl vc)), .val (.ref b155), .val (.int (Int32.ofNat M3)), .val (.int (own_F5 (Int32.ofNat M3))), .val (.int (own_F5 ((Int32.ofNat M3) &&& (((1 : Int32) <<< ((Int32.ofNat j) &&& 31)) - (1 : Int32))))), .val (.int (Int32.ofNat y)), .val (.int (own_M0_227 M3 y)), .unset, .unset] [(.int (2147483647 : Int32)), (.int p5)]))
      refine own_iand X184 hx (hb hby at_260) (q := 261) rfl ?_
      refine own_iload X184 hx (hb hby at_261) rfl (q := 263) rfl ?_
      have hcb : own_ct M3 0 8 ≤ 8 := own_cb ⟨M3, own_p8 hN hM3⟩
      have hpo : own_F5 (Int32.ofNat M3) = Int32.ofNat (own_ct M3 0 8) := own_popc ⟨M3, own_p8 hN hM3⟩
      have hcp : 1 ≤ own_ct M3 0 8 := by rw [hpo] at hc253_186; exact (own_ltN 0 (own_ct M3 0 8) (by decide) (by omega)).mp hc253_186
      have hnz : own_F5 (Int32.ofNat M3) ≠ 0 := by rw [hpo]; exact own_nz _ ⟨hcp, hcb⟩
      refine own_irem X184 hx (hb hby at_263) hnz (q := 264) rfl ?_
      obtain ⟨kk, hkk, ekk⟩ := own_rem (p5 &&& (2147483647 : Int32)) (own_ct M3 0 8) ⟨hcp, hcb⟩ (own_msk p5)
      rw [← hpo] at ekk
      rw [ekk]
      show own_End p e below s _ _ _ (T184.setTop (mkF m 264 #[.val (.int p0), .val (.int p1), .val (.int p2), .val (.int p3), .val (.int p4), .val (.int p5), .val (.int (Int32.ofNat N)), .val (.int (Int32.ofNat xa)), .val (.int (own_fl va)), .val (.int (Int32.ofNat xb)), .val (.int (own_fl vb)), .val (.int (Int32.ofNat xc)), .val (.int (own_fl vc)), .val (.ref b155), .val (.int (Int32.ofNat M3)), .val (.int (own_F5 (Int32.ofNat M3))), .val (.int (own_F5 ((Int32.ofNat M3) &&& (((1 : Int32) <<< ((Int32.ofNat j) &&& 31)) - (1 : Int32))))), .val (.int (Int32.ofNat y)), .val (.int (own_M0_227 M3 y)), .unset, .unset] [(.int (Int32.ofNat kk))]))
      have hS := own_selAll ⟨N, by omega⟩ hN.1 ⟨M3, own_p8 hN hM3⟩ hM3 ⟨kk, by omega⟩ hkk
      simp only [own_selP, Bool.and_eq_true, decide_eq_true_eq] at hS
      obtain ⟨⟨⟨⟨hs1, hs2⟩, hs3⟩, hs4⟩, hs5⟩ := hS
      refine own_istore X184 hx (hb hby at_264) (l' := #[.val (.int p0), .val (.int p1), .val (.int p2), .val (.int p3), .val (.int p4), .val (.int p5), .val (.int (Int32.ofNat N)), .val (.int (Int32.ofNat xa)), .val (.int (own_fl va)), .val (.int (Int32.ofNat xb)), .val (.int (own_fl vb)), .val (.int (Int32.ofNat xc)), .val (.int (own_fl vc)), .val (.ref b155), .val (.int (Int32.ofNat M3)), .val (.int (own_F5 (Int32.ofNat M3))), .val (.int (own_F5 ((Int32.ofNat M3) &&& (((1 : Int32) <<< ((Int32.ofNat j) &&& 31)) - (1 : Int32))))), .val (.int (Int32.ofNat y)), .val (.int (own_M0_227 M3 y)), .val (.int (Int32.ofNat kk)), .unset]) rfl (q := 266) rfl ?_
      refine own_aload X184 hx (hb hby at_266) rfl rfl (q := 268) rfl ?_
      refine own_iload X184 hx (hb hby at_268) rfl (q := 270) rfl ?_
      obtain ⟨cq187, kq187, q187a, q187b, q187c⟩ := isOf hZ e184 Q166_0
      obtain ⟨T187, Lc187, L187, X187, N187, hQ187, st187⟩ := own_shutV (val := some (.int (own_sel (own_ft M3) (Int32.ofNat (N + 1)) 9 (0 : Int32) (Int32.ofNat kk) (own_F11 (Int32.ofNat N))))) (Q := own_Q10 Z b155 (Int32.ofNat kk) b157_0 b157_1 N M3 T166.heap n0) (rc := 0) (rs := 0) N184 (fun _ _ _ q => ⟨q.1, q.2.1⟩) (X184.virtualBack hx (y := (⟨"com/example/hardy_election/hardyelection/SharedMemory$EnabledSet", "select", "(I)I"⟩ : MethodName)) (z := (⟨"com/example/hardy_election/hardyelection/SharedMemory$EnabledSet", "select", "(I)I"⟩ : MethodName)) hown (mvT hZ (hw _ (List.mem_of_getElem? (i := 49) rfl))) (mvT hZ (hw _ (List.mem_of_getElem? (i := 50) rfl))) (notFace_of_selects (args := #[]) (mvT hZ (hw _ (List.mem_of_getElem? (i := 52) rfl)))) (mvT hZ (hw _ (List.mem_of_getElem? (i := 52) rfl))) (mvT hZ (hw _ (List.mem_of_getElem? (i := 51) rfl))) (by decide) (backOf (W := 0) (own_rm10 l Z a0 hw [] b155 (Int32.ofNat kk) b157_0 b157_1 N M3 T166.heap n0 Z168 Q166_0 Q166_1 Q166_2 Q166_4 Q166_5 hN hs1) hZ (hw _ (List.mem_of_getElem? (i := 53) rfl)) (hw _ (List.mem_of_getElem? (i := 2) rfl)) (by decide) (by decide)) q187a q187c (g := (mkF m 270 #[.val (.int p0), .val (.int p1), .val (.int p2), .val (.int p3), .val (.int p4), .val (.int p5), .val (.int (Int32.ofNat N)), .val (.int (Int32.ofNat xa)), .val (.int (own_fl va)), .val (.int (Int32.ofNat xb)), .val (.int (own_fl vb)), .val (.int (Int32.ofNat xc)), .val (.int (own_fl vc)), .val (.ref b155), .val (.int (Int32.ofNat M3)), .val (.int (own_F5 (Int32.ofNat M3))), .val (.int (own_F5 ((Int32.ofNat M3) &&& (((1 : Int32) <<< ((Int32.ofNat j) &&& 31)) - (1 : Int32))))), .val (.int (Int32.ofNat y)), .val (.int (own_M0_227 M3 y)), .val (.int (Int32.ofNat kk)), .unset] [(.int (Int32.ofNat kk)), (.ref b155)])) rfl (by rw [hml]; rfl) (Steps.refl _) (argsL := [(.int (Int32.ofNat kk))]) (rest := []) (lenOf own_pd0 rfl) rfl (by show 2 * 0 + _ ≤ _; exact Nat.le_of_eq rfl) (hb hby at_270) (fun _ _ => ⟨rfl, e184, (by decide : 3 + 0 ≤ _), (by decide : 20 + 0 ≤ _)⟩))
      obtain ⟨-, -, e187⟩ := hQ187
      refine own_via st187 ?_
      show own_End p e below s _ _ _ (T187.setTop (mkF m 273 #[.val (.int p0), .val (.int p1), .val (.int p2), .val (.int p3), .val (.int p4), .val (.int p5), .val (.int (Int32.ofNat N)), .val (.int (Int32.ofNat xa)), .val (.int (own_fl va)), .val (.int (Int32.ofNat xb)), .val (.int (own_fl vb)), .val (.int (Int32.ofNat xc)), .val (.int (own_fl vc)), .val (.ref b155), .val (.int (Int32.ofNat M3)), .val (.int (own_F5 (Int32.ofNat M3))), .val (.int (own_F5 ((Int32.ofNat M3) &&& (((1 : Int32) <<< ((Int32.ofNat j) &&& 31)) - (1 : Int32))))), .val (.int (Int32.ofNat y)), .val (.int (own_M0_227 M3 y)), .val (.int (Int32.ofNat kk)), .unset] [(.int (own_sel (own_ft M3) (Int32.ofNat (N + 1)) 9 (0 : Int32) (Int32.ofNat kk) (own_F11 (Int32.ofNat N))))]))
      obtain ⟨r, er⟩ : ∃ z, z = (own_sel (own_ft M3) (Int32.ofNat (N + 1)) 9 (0 : Int32) (Int32.ofNat kk) (own_F11 (Int32.ofNat N))) := ⟨_, rfl⟩
      rw [← er] at hs2 hs3 hs4 hs5 ⊢
      show own_End p e below s _ _ _ (T187.setTop (mkF m 273 #[.val (.int p0), .val (.int p1), .val (.int p2), .val (.int p3), .val (.int p4), .val (.int p5), .val (.int (Int32.ofNat N)), .val (.int (Int32.ofNat xa)), .val (.int (own_fl va)), .val (.int (Int32.ofNat xb)), .val (.int (own_fl vb)), .val (.int (Int32.ofNat xc)), .val (.int (own_fl vc)), .val (.ref b155), .val (.int (Int32.ofNat M3)), .val (.int (own_F5 (Int32.ofNat M3))), .val (.int (own_F5 ((Int32.ofNat M3) &&& (((1 : Int32) <<< ((Int32.ofNat j) &&& 31)) - (1 : Int32))))), .val (.int (Int32.ofNat y)), .val (.int (own_M0_227 M3 y)), .val (.int (Int32.ofNat kk)), .unset] [(.int r)]))
      refine own_istore X187 hx (hb hby at_273) (l' := #[.val (.int p0), .val (.int p1), .val (.int p2), .val (.int p3), .val (.int p4), .val (.int p5), .val (.int (Int32.ofNat N)), .val (.int (Int32.ofNat xa)), .val (.int (own_fl va)), .val (.int (Int32.ofNat xb)), .val (.int (own_fl vb)), .val (.int (Int32.ofNat xc)), .val (.int (own_fl vc)), .val (.ref b155), .val (.int (Int32.ofNat M3)), .val (.int (own_F5 (Int32.ofNat M3))), .val (.int (own_F5 ((Int32.ofNat M3) &&& (((1 : Int32) <<< ((Int32.ofNat j) &&& 31)) - (1 : Int32))))), .val (.int (Int32.ofNat y)), .val (.int (own_M0_227 M3 y)), .val (.int (Int32.ofNat kk)), .val (.int r)]) rfl (q := 275) rfl ?_
      refine own_iload X187 hx (hb hby at_275) rfl (q := 277) rfl ?_
      have hk188 : ¬ (r < (0 : Int32)) := own_nd hs2
      refine own_ifN X187 hx (hb hby at_277) (flt hk188).1 (q := 280) rfl ?_
      refine own_iload X187 hx (hb hby at_280) rfl (q := 282) rfl ?_
      refine own_iload X187 hx (hb hby at_282) rfl (q := 284) rfl ?_
      have hk189 : r < (Int32.ofNat N) := hs3
      refine own_icY X187 hx (hb hby at_284) (tlt hk189).1 (q := 289) (by decide) (by decide) ?_
      refine own_iload X187 hx (hb hby at_289) rfl (q := 291) rfl ?_
      refine own_iload X187 hx (hb hby at_291) rfl (q := 293) rfl ?_
      refine own_ishr X187 hx (hb hby at_293) (q := 294) rfl ?_
      refine own_iconst X187 hx (hb hby at_294) (z := 1) rfl (q := 295) rfl ?_
      refine own_iand X187 hx (hb hby at_295) (q := 296) rfl ?_
      refine own_iconst X187 hx (hb hby at_296) (z := 1) rfl (q := 297) rfl ?_
      have hk190 : (((Int32.ofNat M3) >>> (r &&& 31)) &&& (1 : Int32)) = (1 : Int32) := hs4
      refine own_icY X187 hx (hb hby at_297) (teq hk190).1 (q := 302) (by decide) (by decide) ?_
      refine own_iload X187 hx (hb hby at_302) rfl (q := 304) rfl ?_
      refine own_iconst X187 hx (hb hby at_304) (z := 1) rfl (q := 305) rfl ?_
      refine own_iload X187 hx (hb hby at_305) rfl (q := 307) rfl ?_
      refine own_ishl X187 hx (hb hby at_307) (q := 308) rfl ?_
      refine own_iconst X187 hx (hb hby at_308) (z := 1) rfl (q := 309) rfl ?_
      refine own_isub X187 hx (hb hby at_309) (q := 310) rfl ?_
      refine own_iand X187 hx (hb hby at_310) (q := 311) rfl ?_
      obtain ⟨T191, Lc191, L191, X191, N191, hQ191, st191⟩ := own_shutS (val := some (.int (own_F5 ((Int32.ofNat M3) &&& (((1 : Int32) <<< (r &&& 31)) - (1 : Int32)))))) (Q := own_Q5 Z ((Int32.ofNat M3) &&& (((1 : Int32) <<< (r &&& 31)) - (1 : Int32))) T166.heap n0) (rc := 0) (rs := 0) N187 (fun _ _ _ q => ⟨q.1, q.2.1⟩) (Jvm.LawKit.callS X187 hx (y := (⟨"com/example/hardy_election/hardyelection/EnabledSetSetPinLaw", "pop", "(I)I"⟩ : MethodName)) hown (mvT hZ (hw _ (List.mem_of_getElem? (i := 26) rfl))) (mvT hZ (hw _ (List.mem_of_getElem? (i := 27) rfl))) (mvT hZ (hw _ (List.mem_of_getElem? (i := 24) rfl))) (mvT hZ (hw _ (List.mem_of_getElem? (i := 28) rfl))) (by decide) (backOf (W := 0) (own_rm5 l Z a0 hw [] ((Int32.ofNat M3) &&& (((1 : Int32) <<< (r &&& 31)) - (1 : Int32))) T166.heap n0 Z168 ) hZ (hw _ (List.mem_of_getElem? (i := 28) rfl)) (hw _ (List.mem_of_getElem? (i := 24) rfl)) (by decide) (by decide)) (g := (mkF m 311 #[.val (.int p0), .val (.int p1), .val (.int p2), .val (.int p3), .val (.int p4), .val (.int p5), .val (.int (Int32.ofNat N)), .val (.int (Int32.ofNat xa)), .val (.int (own_fl va)), .val (.int (Int32.ofNat xb)), .val (.int (own_fl vb)), .val (.int (Int32.ofNat xc)), .val (.int (own_fl vc)), .val (.ref b155), .val (.int (Int32.ofNat M3)), .val (.int (own_F5 (Int32.ofNat M3))), .val (.int (own_F5 ((Int32.ofNat M3) &&& (((1 : Int32) <<< ((Int32.ofNat j) &&& 31)) - (1 : Int32))))), .val (.int (Int32.ofNat y)), .val (.int (own_M0_227 M3 y)), .val (.int (Int32.ofNat kk)), .val (.int r)] [(.int ((Int32.ofNat M3) &&& (((1 : Int32) <<< (r &&& 31)) - (1 : Int32))))])) rfl (by rw [hml]; rfl) (argsL := [(.int ((Int32.ofNat M3) &&& (((1 : Int32) <<< (r &&& 31)) - (1 : Int32))))]) (rest := []) (lenOf own_pd0 rfl) rfl (by show 2 * 0 + _ ≤ _; exact Nat.le_of_eq rfl) (hb hby at_311) (fun _ _ => ⟨rfl, e187, (by decide : 3 + 0 ≤ _), (by decide : 20 + 0 ≤ _)⟩))
      obtain ⟨-, -, e191⟩ := hQ191
      refine own_back st191 ?_
      show own_End p e below s _ _ _ (T191.setTop (mkF m 314 #[.val (.int p0), .val (.int p1), .val (.int p2), .val (.int p3), .val (.int p4), .val (.int p5), .val (.int (Int32.ofNat N)), .val (.int (Int32.ofNat xa)), .val (.int (own_fl va)), .val (.int (Int32.ofNat xb)), .val (.int (own_fl vb)), .val (.int (Int32.ofNat xc)), .val (.int (own_fl vc)), .val (.ref b155), .val (.int (Int32.ofNat M3)), .val (.int (own_F5 (Int32.ofNat M3))), .val (.int (own_F5 ((Int32.ofNat M3) &&& (((1 : Int32) <<< ((Int32.ofNat j) &&& 31)) - (1 : Int32))))), .val (.int (Int32.ofNat y)), .val (.int (own_M0_227 M3 y)), .val (.int (Int32.ofNat kk)), .val (.int r)] [(.int (own_F5 ((Int32.ofNat M3) &&& (((1 : Int32) <<< (r &&& 31)) - (1 : Int32)))))]))
      refine own_iload X191 hx (hb hby at_314) rfl (q := 316) rfl ?_
      have hk192 : (own_F5 ((Int32.ofNat M3) &&& (((1 : Int32) <<< (r &&& 31)) - (1 : Int32)))) = (Int32.ofNat kk) := hs5
      refine own_icY X191 hx (hb hby at_316) (teq hk192).1 (q := 321) (by decide) (by decide) ?_
      refine own_iconst X191 hx (hb hby at_321) (z := 1) rfl (q := 322) rfl ?_
      refine own_retN X191 hx (t := .boolean) (by simp) Bd.returns Bd.notSynchronized (by decide) (by decide) (hb hby at_322) ?_
      show own_Q0 Z p0 p1 p2 p3 p4 p5 h0 n0 _ T191.heap _
      exact ⟨rfl, N191⟩
    · refine own_ifY X184 hx (hb hby at_253) (flt hc253_186).2.2.2 (q := 321) (by decide) (by decide) ?_
      refine own_iconst X184 hx (hb hby at_321) (z := 1) rfl (q := 322) rfl ?_
      refine own_retN X184 hx (t := .boolean) (by simp) Bd.returns Bd.notSynchronized (by decide) (by decide) (hb hby at_322) ?_
      show own_Q0 Z p0 p1 p2 p3 p4 p5 h0 n0 _ T184.heap _
      exact ⟨rfl, N184⟩
  · refine own_ifY X173 hx (hb hby at_169) (flt hc169_175).2.2.2 (q := 195) (by decide) (by decide) ?_
    refine own_aload X173 hx (hb hby at_195) rfl rfl (q := 197) rfl ?_
    refine own_iload X173 hx (hb hby at_197) rfl (q := 199) rfl ?_
    obtain ⟨cq195, kq195, q195a, q195b, q195c⟩ := isOf hZ e173 Q166_0
    obtain ⟨T195, Lc195, L195, X195, N195, hQ195, st195⟩ := own_shutV (val := some (.int (own_sum (own_ft M3) 9 (own_F8 p4 (Int32.ofNat N)) (0 : Int32)))) (Q := own_Q7 Z b155 p4 b157_0 b157_1 N M3 T166.heap n0) (rc := 0) (rs := 0) N173 (fun _ _ _ q => ⟨q.1, q.2.1⟩) (X173.virtualBack hx (y := (⟨"com/example/hardy_election/hardyelection/SharedMemory$EnabledSet", "countBelow", "(I)I"⟩ : MethodName)) (z := (⟨"com/example/hardy_election/hardyelection/SharedMemory$EnabledSet", "countBelow", "(I)I"⟩ : MethodName)) hown (mvT hZ (hw _ (List.mem_of_getElem? (i := 34) rfl))) (mvT hZ (hw _ (List.mem_of_getElem? (i := 35) rfl))) (notFace_of_selects (args := #[]) (mvT hZ (hw _ (List.mem_of_getElem? (i := 37) rfl)))) (mvT hZ (hw _ (List.mem_of_getElem? (i := 37) rfl))) (mvT hZ (hw _ (List.mem_of_getElem? (i := 36) rfl))) (by decide) (backOf (W := 0) (own_rm7 l Z a0 hw [] b155 p4 b157_0 b157_1 N M3 T166.heap n0 Z168 Q166_0 Q166_1 Q166_2 Q166_4 Q166_5 hN (own_dn0 _ _ (own_min0 p4 N hN hc169_175))) hZ (hw _ (List.mem_of_getElem? (i := 38) rfl)) (hw _ (List.mem_of_getElem? (i := 2) rfl)) (by decide) (by decide)) q195a q195c (g := (mkF m 199 #[.val (.int p0), .val (.int p1), .val (.int p2), .val (.int p3), .val (.int p4), .val (.int p5), .val (.int (Int32.ofNat N)), .val (.int (Int32.ofNat xa)), .val (.int (own_fl va)), .val (.int (Int32.ofNat xb)), .val (.int (own_fl vb)), .val (.int (Int32.ofNat xc)), .val (.int (own_fl vc)), .val (.ref b155), .val (.int (Int32.ofNat M3)), .val (.int (own_F5 (Int32.ofNat M3))), .val (.int (0 : Int32)), .unset, .unset, .unset, .unset] [(.int p4), (.ref b155)])) rfl (by rw [hml]; rfl) (Steps.refl _) (argsL := [(.int p4)]) (rest := []) (lenOf own_pd0 rfl) rfl (by show 2 * 0 + _ ≤ _; exact Nat.le_of_eq rfl) (hb hby at_199) (fun _ _ => ⟨rfl, e173, (by decide : 3 + 0 ≤ _), (by decide : 20 + 0 ≤ _)⟩))
    obtain ⟨-, -, e195⟩ := hQ195
    refine own_via st195 ?_
    show own_End p e below s _ _ _ (T195.setTop (mkF m 202 #[.val (.int p0), .val (.int p1), .val (.int p2), .val (.int p3), .val (.int p4), .val (.int p5), .val (.int (Int32.ofNat N)), .val (.int (Int32.ofNat xa)), .val (.int (own_fl va)), .val (.int (Int32.ofNat xb)), .val (.int (own_fl vb)), .val (.int (Int32.ofNat xc)), .val (.int (own_fl vc)), .val (.ref b155), .val (.int (Int32.ofNat M3)), .val (.int (own_F5 (Int32.ofNat M3))), .val (.int (0 : Int32)), .unset, .unset, .unset, .unset] [(.int (own_sum (own_ft M3) 9 (own_F8 p4 (Int32.ofNat N)) (0 : Int32)))]))
    refine own_iload X195 hx (hb hby at_202) rfl (q := 204) rfl ?_
    have hk196 : (own_sum (own_ft M3) 9 (own_F8 p4 (Int32.ofNat N)) (0 : Int32)) = (0 : Int32) := own_bel0 _ _ (own_min0 p4 N hN hc169_175)
    refine own_icY X195 hx (hb hby at_204) (teq hk196).1 (q := 209) (by decide) (by decide) ?_
    refine own_iload X195 hx (hb hby at_209) rfl (q := 211) rfl ?_
    refine own_back (X195.ldcInt hx hown (mvT hZ (hw _ (List.mem_of_getElem? (i := 43) rfl))) (g := (mkF m 211 #[.val (.int p0), .val (.int p1), .val (.int p2), .val (.int p3), .val (.int p4), .val (.int p5), .val (.int (Int32.ofNat N)), .val (.int (Int32.ofNat xa)), .val (.int (own_fl va)), .val (.int (Int32.ofNat xb)), .val (.int (own_fl vb)), .val (.int (Int32.ofNat xc)), .val (.int (own_fl vc)), .val (.ref b155), .val (.int (Int32.ofNat M3)), .val (.int (own_F5 (Int32.ofNat M3))), .val (.int (0 : Int32)), .unset, .unset, .unset, .unset] [(.int p4)])) rfl (hb hby at_211)) ?_
    show own_End p e below s _ _ _ (T195.setTop (mkF m 213 #[.val (.int p0), .val (.int p1), .val (.int p2), .val (.int p3), .val (.int p4), .val (.int p5), .val (.int (Int32.ofNat N)), .val (.int (Int32.ofNat xa)), .val (.int (own_fl va)), .val (.int (Int32.ofNat xb)), .val (.int (own_fl vb)), .val (.int (Int32.ofNat xc)), .val (.int (own_fl vc)), .val (.ref b155), .val (.int (Int32.ofNat M3)), .val (.int (own_F5 (Int32.ofNat M3))), .val (.int (0 : Int32)), .unset, .unset, .unset, .unset] [(.int (2147483647 : Int32)), (.int p4)]))
    refine own_iand X195 hx (hb hby at_213) (q := 214) rfl ?_
    refine own_iload X195 hx (hb hby at_214) rfl (q := 216) rfl ?_
    refine own_irem X195 hx (hb hby at_216) (own_nz N hN) (q := 217) rfl ?_
    obtain ⟨y, hy, ey⟩ := own_rem (p4 &&& (2147483647 : Int32)) N hN (own_msk p4)
    rw [ey]
    show own_End p e below s _ _ _ (T195.setTop (mkF m 217 #[.val (.int p0), .val (.int p1), .val (.int p2), .val (.int p3), .val (.int p4), .val (.int p5), .val (.int (Int32.ofNat N)), .val (.int (Int32.ofNat xa)), .val (.int (own_fl va)), .val (.int (Int32.ofNat xb)), .val (.int (own_fl vb)), .val (.int (Int32.ofNat xc)), .val (.int (own_fl vc)), .val (.ref b155), .val (.int (Int32.ofNat M3)), .val (.int (own_F5 (Int32.ofNat M3))), .val (.int (0 : Int32)), .unset, .unset, .unset, .unset] [(.int (Int32.ofNat y))]))
    refine own_istore X195 hx (hb hby at_217) (l' := #[.val (.int p0), .val (.int p1), .val (.int p2), .val (.int p3), .val (.int p4), .val (.int p5), .val (.int (Int32.ofNat N)), .val (.int (Int32.ofNat xa)), .val (.int (own_fl va)), .val (.int (Int32.ofNat xb)), .val (.int (own_fl vb)), .val (.int (Int32.ofNat xc)), .val (.int (own_fl vc)), .val (.ref b155), .val (.int (Int32.ofNat M3)), .val (.int (own_F5 (Int32.ofNat M3))), .val (.int (0 : Int32)), .val (.int (Int32.ofNat y)), .unset, .unset, .unset]) rfl (q := 219) rfl ?_
    refine own_iload X195 hx (hb hby at_219) rfl (q := 221) rfl ?_
    refine own_iload X195 hx (hb hby at_221) rfl (q := 223) rfl ?_
    refine own_ishr X195 hx (hb hby at_223) (q := 224) rfl ?_
    refine own_iconst X195 hx (hb hby at_224) (z := 1) rfl (q := 225) rfl ?_
    refine own_iand X195 hx (hb hby at_225) (q := 226) rfl ?_
    refine own_iconst X195 hx (hb hby at_226) (z := 1) rfl (q := 227) rfl ?_
    suffices J200 : own_End p e below s (own_Q0 Z p0 p1 p2 p3 p4 p5 h0 n0) room_1.cells room_1.slots (T195.setTop (mkF m 235 #[.val (.int p0), .val (.int p1), .val (.int p2), .val (.int p3), .val (.int p4), .val (.int p5), .val (.int (Int32.ofNat N)), .val (.int (Int32.ofNat xa)), .val (.int (own_fl va)), .val (.int (Int32.ofNat xb)), .val (.int (own_fl vb)), .val (.int (Int32.ofNat xc)), .val (.int (own_fl vc)), .val (.ref b155), .val (.int (Int32.ofNat M3)), .val (.int (own_F5 (Int32.ofNat M3))), .val (.int (0 : Int32)), .val (.int (Int32.ofNat y)), .unset, .unset, .unset] [(.int (own_M0_227 M3 y))])) by
      by_cases hc227_197 : (((Int32.ofNat M3) >>> ((Int32.ofNat y) &&& 31)) &&& (1 : Int32)) = (1 : Int32)
      · refine own_icN X195 hx (hb hby at_227) (teq hc227_197).2 (q := 230) rfl ?_
        refine own_iconst X195 hx (hb hby at_230) (z := 1) rfl (q := 231) rfl ?_
        refine own_goto X195 hx (hb hby at_231) (q := 235) (by decide) (by decide) ?_
        simp only [own_M0_227, if_pos hc227_197] at J200
        exact J200
      · refine own_icY X195 hx (hb hby at_227) (feq hc227_197).2 (q := 234) (by decide) (by decide) ?_
        refine own_iconst X195 hx (hb hby at_234) (z := 0) rfl (q := 235) rfl ?_
        simp only [own_M0_227, if_neg hc227_197] at J200
        exact J200
    refine own_istore X195 hx (hb hby at_235) (l' := #[.val (.int p0), .val (.int p1), .val (.int p2), .val (.int p3), .val (.int p4), .val (.int p5), .val (.int (Int32.ofNat N)), .val (.int (Int32.ofNat xa)), .val (.int (own_fl va)), .val (.int (Int32.ofNat xb)), .val (.int (own_fl vb)), .val (.int (Int32.ofNat xc)), .val (.int (own_fl vc)), .val (.ref b155), .val (.int (Int32.ofNat M3)), .val (.int (own_F5 (Int32.ofNat M3))), .val (.int (0 : Int32)), .val (.int (Int32.ofNat y)), .val (.int (own_M0_227 M3 y)), .unset, .unset]) rfl (q := 237) rfl ?_
    refine own_aload X195 hx (hb hby at_237) rfl rfl (q := 239) rfl ?_
    refine own_iload X195 hx (hb hby at_239) rfl (q := 241) rfl ?_
    obtain ⟨cq201, kq201, q201a, q201b, q201c⟩ := isOf hZ e195 Q166_0
    obtain ⟨T201, Lc201, L201, X201, N201, hQ201, st201⟩ := own_shutV (val := some (.int ((own_bt M3 y) &&& 1))) (Q := own_Q9 Z b155 b157_0 N M3 y T166.heap n0) (rc := 0) (rs := 0) N195 (fun _ _ _ q => ⟨q.1, q.2.1⟩) (X195.virtualBack hx (y := (⟨"com/example/hardy_election/hardyelection/SharedMemory$EnabledSet", "contains", "(I)Z"⟩ : MethodName)) (z := (⟨"com/example/hardy_election/hardyelection/SharedMemory$EnabledSet", "contains", "(I)Z"⟩ : MethodName)) hown (mvT hZ (hw _ (List.mem_of_getElem? (i := 44) rfl))) (mvT hZ (hw _ (List.mem_of_getElem? (i := 45) rfl))) (notFace_of_selects (args := #[]) (mvT hZ (hw _ (List.mem_of_getElem? (i := 47) rfl)))) (mvT hZ (hw _ (List.mem_of_getElem? (i := 47) rfl))) (mvT hZ (hw _ (List.mem_of_getElem? (i := 46) rfl))) (by decide) (backOf (W := 0) (own_rm9 l Z a0 hw [] b155 b157_0 N M3 y T166.heap n0 Z168 Q166_0 Q166_1 Q166_4 hN hy) hZ (hw _ (List.mem_of_getElem? (i := 48) rfl)) (hw _ (List.mem_of_getElem? (i := 2) rfl)) (by decide) (by decide)) q201a q201c (g := (mkF m 241 #[.val (.int p0), .val (.int p1), .val (.int p2), .val (.int p3), .val (.int p4), .val (.int p5), .val (.int (Int32.ofNat N)), .val (.int (Int32.ofNat xa)), .val (.int (own_fl va)), .val (.int (Int32.ofNat xb)), .val (.int (own_fl vb)), .val (.int (Int32.ofNat xc)), .val (.int (own_fl vc)), .val (.ref b155), .val (.int (Int32.ofNat M3)), .val (.int (own_F5 (Int32.ofNat M3))), .val (.int (0 : Int32)), .val (.int (Int32.ofNat y)), .val (.int (own_M0_227 M3 y)), .unset, .unset] [(.int (Int32.ofNat y)), (.ref b155)])) rfl (by rw [hml]; rfl) (Steps.refl _) (argsL := [(.int (Int32.ofNat y))]) (rest := []) (lenOf own_pd6 rfl) rfl (by show 2 * 0 + _ ≤ _; exact Nat.le_of_eq rfl) (hb hby at_241) (fun _ _ => ⟨rfl, e195, (by decide : 3 + 0 ≤ _), (by decide : 20 + 0 ≤ _)⟩))
    obtain ⟨-, -, e201⟩ := hQ201
    refine own_via st201 ?_
    show own_End p e below s _ _ _ (T201.setTop (mkF m 244 #[.val (.int p0), .val (.int p1), .val (.int p2), .val (.int p3), .val (.int p4), .val (.int p5), .val (.int (Int32.ofNat N)), .val (.int (Int32.ofNat xa)), .val (.int (own_fl va)), .val (.int (Int32.ofNat xb)), .val (.int (own_fl vb)), .val (.int (Int32.ofNat xc)), .val (.int (own_fl vc)), .val (.ref b155), .val (.int (Int32.ofNat M3)), .val (.int (own_F5 (Int32.ofNat M3))), .val (.int (0 : Int32)), .val (.int (Int32.ofNat y)), .val (.int (own_M0_227 M3 y)), .unset, .unset] [(.int ((own_bt M3 y) &&& 1))]))
    refine own_iload X201 hx (hb hby at_244) rfl (q := 246) rfl ?_
    have hk202 : ((own_bt M3 y) &&& 1) = (own_M0_227 M3 y) := by rw [own_M0_227]; exact own_has ⟨M3, own_p8 hN hM3⟩ ⟨y, by omega⟩
    refine own_icY X201 hx (hb hby at_246) (teq hk202).1 (q := 251) (by decide) (by decide) ?_
    refine own_iload X201 hx (hb hby at_251) rfl (q := 253) rfl ?_
    by_cases hc253_203 : (0 : Int32) < (own_F5 (Int32.ofNat M3))
    · refine own_ifN X201 hx (hb hby at_253) (tlt hc253_203).2.2.2 (q := 256) rfl ?_
      refine own_iload X201 hx (hb hby at_256) rfl (q := 258) rfl ?_
      refine own_back (X201.ldcInt hx hown (mvT hZ (hw _ (List.mem_of_getElem? (i := 43) rfl))) (g := (mkF m 258 #[.val (.int p0), .val (.int p1), .val (.int p2), .val (.int p3), .val (.int p4), .val (.int p5), .val (.int (Int32.ofNat N)), .val (.int (Int32.ofNat xa)), .val (.int (own_fl va)), .val (.int (Int32.ofNat xb)), .val (.int (own_fl vb)), .val (.int (Int32.ofNat xc)), .val (.int (own_fl vc)), .val (.ref b155), .val (.int (Int32.ofNat M3)), .val (.int (own_F5 (Int32.ofNat M3))), .val (.int (0 : Int32)), .val (.int (Int32.ofNat y)), .val (.int (own_M0_227 M3 y)), .unset, .unset] [(.int p5)])) rfl (hb hby at_258)) ?_
      show own_End p e below s _ _ _ (T201.setTop (mkF m 260 #[.val (.int p0), .val (.int p1), .val (.int p2), .val (.int p3), .val (.int p4), .val (.int p5), .val (.int (Int32.ofNat N)), .val (.int (Int32.ofNat xa)), .val (.int (own_fl va)), .val (.int (Int32.ofNat xb)), .val (.int (own_fl vb)), .val (.int (Int32.ofNat xc)), .val (.int (own_fl vc)), .val (.ref b155), .val (.int (Int32.ofNat M3)), .val (.int (own_F5 (Int32.ofNat M3))), .val (.int (0 : Int32)), .val (.int (Int32.ofNat y)), .val (.int (own_M0_227 M3 y)), .unset, .unset] [(.int (2147483647 : Int32)), (.int p5)]))
      refine own_iand X201 hx (hb hby at_260) (q := 261) rfl ?_
      refine own_iload X201 hx (hb hby at_261) rfl (q := 263) rfl ?_
      have hcb : own_ct M3 0 8 ≤ 8 := own_cb ⟨M3, own_p8 hN hM3⟩
      have hpo : own_F5 (Int32.ofNat M3) = Int32.ofNat (own_ct M3 0 8) := own_popc ⟨M3, own_p8 hN hM3⟩
      have hcp : 1 ≤ own_ct M3 0 8 := by rw [hpo] at hc253_203; exact (own_ltN 0 (own_ct M3 0 8) (by decide) (by omega)).mp hc253_203
      have hnz : own_F5 (Int32.ofNat M3) ≠ 0 := by rw [hpo]; exact own_nz _ ⟨hcp, hcb⟩
      refine own_irem X201 hx (hb hby at_263) hnz (q := 264) rfl ?_
      obtain ⟨kk, hkk, ekk⟩ := own_rem (p5 &&& (2147483647 : Int32)) (own_ct M3 0 8) ⟨hcp, hcb⟩ (own_msk p5)
      rw [← hpo] at ekk
      rw [ekk]
      show own_End p e below s _ _ _ (T201.setTop (mkF m 264 #[.val (.int p0), .val (.int p1), .val (.int p2), .val (.int p3), .val (.int p4), .val (.int p5), .val (.int (Int32.ofNat N)), .val (.int (Int32.ofNat xa)), .val (.int (own_fl va)), .val (.int (Int32.ofNat xb)), .val (.int (own_fl vb)), .val (.int (Int32.ofNat xc)), .val (.int (own_fl vc)), .val (.ref b155), .val (.int (Int32.ofNat M3)), .val (.int (own_F5 (Int32.ofNat M3))), .val (.int (0 : Int32)), .val (.int (Int32.ofNat y)), .val (.int (own_M0_227 M3 y)), .unset, .unset] [(.int (Int32.ofNat kk))]))
      have hS := own_selAll ⟨N, by omega⟩ hN.1 ⟨M3, own_p8 hN hM3⟩ hM3 ⟨kk, by omega⟩ hkk
      simp only [own_selP, Bool.and_eq_true, decide_eq_true_eq] at hS
      obtain ⟨⟨⟨⟨hs1, hs2⟩, hs3⟩, hs4⟩, hs5⟩ := hS
      refine own_istore X201 hx (hb hby at_264) (l' := #[.val (.int p0), .val (.int p1), .val (.int p2), .val (.int p3), .val (.int p4), .val (.int p5), .val (.int (Int32.ofNat N)), .val (.int (Int32.ofNat xa)), .val (.int (own_fl va)), .val (.int (Int32.ofNat xb)), .val (.int (own_fl vb)), .val (.int (Int32.ofNat xc)), .val (.int (own_fl vc)), .val (.ref b155), .val (.int (Int32.ofNat M3)), .val (.int (own_F5 (Int32.ofNat M3))), .val (.int (0 : Int32)), .val (.int (Int32.ofNat y)), .val (.int (own_M0_227 M3 y)), .val (.int (Int32.ofNat kk)), .unset]) rfl (q := 266) rfl ?_
      refine own_aload X201 hx (hb hby at_266) rfl rfl (q := 268) rfl ?_
      refine own_iload X201 hx (hb hby at_268) rfl (q := 270) rfl ?_
      obtain ⟨cq204, kq204, q204a, q204b, q204c⟩ := isOf hZ e201 Q166_0
      obtain ⟨T204, Lc204, L204, X204, N204, hQ204, st204⟩ := own_shutV (val := some (.int (own_sel (own_ft M3) (Int32.ofNat (N + 1)) 9 (0 : Int32) (Int32.ofNat kk) (own_F11 (Int32.ofNat N))))) (Q := own_Q10 Z b155 (Int32.ofNat kk) b157_0 b157_1 N M3 T166.heap n0) (rc := 0) (rs := 0) N201 (fun _ _ _ q => ⟨q.1, q.2.1⟩) (X201.virtualBack hx (y := (⟨"com/example/hardy_election/hardyelection/SharedMemory$EnabledSet", "select", "(I)I"⟩ : MethodName)) (z := (⟨"com/example/hardy_election/hardyelection/SharedMemory$EnabledSet", "select", "(I)I"⟩ : MethodName)) hown (mvT hZ (hw _ (List.mem_of_getElem? (i := 49) rfl))) (mvT hZ (hw _ (List.mem_of_getElem? (i := 50) rfl))) (notFace_of_selects (args := #[]) (mvT hZ (hw _ (List.mem_of_getElem? (i := 52) rfl)))) (mvT hZ (hw _ (List.mem_of_getElem? (i := 52) rfl))) (mvT hZ (hw _ (List.mem_of_getElem? (i := 51) rfl))) (by decide) (backOf (W := 0) (own_rm10 l Z a0 hw [] b155 (Int32.ofNat kk) b157_0 b157_1 N M3 T166.heap n0 Z168 Q166_0 Q166_1 Q166_2 Q166_4 Q166_5 hN hs1) hZ (hw _ (List.mem_of_getElem? (i := 53) rfl)) (hw _ (List.mem_of_getElem? (i := 2) rfl)) (by decide) (by decide)) q204a q204c (g := (mkF m 270 #[.val (.int p0), .val (.int p1), .val (.int p2), .val (.int p3), .val (.int p4), .val (.int p5), .val (.int (Int32.ofNat N)), .val (.int (Int32.ofNat xa)), .val (.int (own_fl va)), .val (.int (Int32.ofNat xb)), .val (.int (own_fl vb)), .val (.int (Int32.ofNat xc)), .val (.int (own_fl vc)), .val (.ref b155), .val (.int (Int32.ofNat M3)), .val (.int (own_F5 (Int32.ofNat M3))), .val (.int (0 : Int32)), .val (.int (Int32.ofNat y)), .val (.int (own_M0_227 M3 y)), .val (.int (Int32.ofNat kk)), .unset] [(.int (Int32.ofNat kk)), (.ref b155)])) rfl (by rw [hml]; rfl) (Steps.refl _) (argsL := [(.int (Int32.ofNat kk))]) (rest := []) (lenOf own_pd0 rfl) rfl (by show 2 * 0 + _ ≤ _; exact Nat.le_of_eq rfl) (hb hby at_270) (fun _ _ => ⟨rfl, e201, (by decide : 3 + 0 ≤ _), (by decide : 20 + 0 ≤ _)⟩))
      obtain ⟨-, -, e204⟩ := hQ204
      refine own_via st204 ?_
      show own_End p e below s _ _ _ (T204.setTop (mkF m 273 #[.val (.int p0), .val (.int p1), .val (.int p2), .val (.int p3), .val (.int p4), .val (.int p5), .val (.int (Int32.ofNat N)), .val (.int (Int32.ofNat xa)), .val (.int (own_fl va)), .val (.int (Int32.ofNat xb)), .val (.int (own_fl vb)), .val (.int (Int32.ofNat xc)), .val (.int (own_fl vc)), .val (.ref b155), .val (.int (Int32.ofNat M3)), .val (.int (own_F5 (Int32.ofNat M3))), .val (.int (0 : Int32)), .val (.int (Int32.ofNat y)), .val (.int (own_M0_227 M3 y)), .val (.int (Int32.ofNat kk)), .unset] [(.int (own_sel (own_ft M3) (Int32.ofNat (N + 1)) 9 (0 : Int32) (Int32.ofNat kk) (own_F11 (Int32.ofNat N))))]))
      obtain ⟨r, er⟩ : ∃ z, z = (own_sel (own_ft M3) (Int32.ofNat (N + 1)) 9 (0 : Int32) (Int32.ofNat kk) (own_F11 (Int32.ofNat N))) := ⟨_, rfl⟩
      rw [← er] at hs2 hs3 hs4 hs5 ⊢
      show own_End p e below s _ _ _ (T204.setTop (mkF m 273 #[.val (.int p0), .val (.int p1), .val (.int p2), .val (.int p3), .val (.int p4), .val (.int p5), .val (.int (Int32.ofNat N)), .val (.int (Int32.ofNat xa)), .val (.int (own_fl va)), .val (.int (Int32.ofNat xb)), .val (.int (own_fl vb)), .val (.int (Int32.ofNat xc)), .val (.int (own_fl vc)), .val (.ref b155), .val (.int (Int32.ofNat M3)), .val (.int (own_F5 (Int32.ofNat M3))), .val (.int (0 : Int32)), .val (.int (Int32.ofNat y)), .val (.int (own_M0_227 M3 y)), .val (.int (Int32.ofNat kk)), .unset] [(.int r)]))
      refine own_istore X204 hx (hb hby at_273) (l' := #[.val (.int p0), .val (.int p1), .val (.int p2), .val (.int p3), .val (.int p4), .val (.int p5), .val (.int (Int32.ofNat N)), .val (.int (Int32.ofNat xa)), .val (.int (own_fl va)), .val (.int (Int32.ofNat xb)), .val (.int (own_fl vb)), .val (.int (Int32.ofNat xc)), .val (.int (own_fl vc)), .val (.ref b155), .val (.int (Int32.ofNat M3)), .val (.int (own_F5 (Int32.ofNat M3))), .val (.int (0 : Int32)), .val (.int (Int32.ofNat y)), .val (.int (own_M0_227 M3 y)), .val (.int (Int32.ofNat kk)), .val (.int r)]) rfl (q := 275) rfl ?_
      refine own_iload X204 hx (hb hby at_275) rfl (q := 277) rfl ?_
      have hk205 : ¬ (r < (0 : Int32)) := own_nd hs2
      refine own_ifN X204 hx (hb hby at_277) (flt hk205).1 (q := 280) rfl ?_
      refine own_iload X204 hx (hb hby at_280) rfl (q := 282) rfl ?_
      refine own_iload X204 hx (hb hby at_282) rfl (q := 284) rfl ?_
      have hk206 : r < (Int32.ofNat N) := hs3
      refine own_icY X204 hx (hb hby at_284) (tlt hk206).1 (q := 289) (by decide) (by decide) ?_
      refine own_iload X204 hx (hb hby at_289) rfl (q := 291) rfl ?_
      refine own_iload X204 hx (hb hby at_291) rfl (q := 293) rfl ?_
      refine own_ishr X204 hx (hb hby at_293) (q := 294) rfl ?_
      refine own_iconst X204 hx (hb hby at_294) (z := 1) rfl (q := 295) rfl ?_
      refine own_iand X204 hx (hb hby at_295) (q := 296) rfl ?_
      refine own_iconst X204 hx (hb hby at_296) (z := 1) rfl (q := 297) rfl ?_
      have hk207 : (((Int32.ofNat M3) >>> (r &&& 31)) &&& (1 : Int32)) = (1 : Int32) := hs4
      refine own_icY X204 hx (hb hby at_297) (teq hk207).1 (q := 302) (by decide) (by decide) ?_
      refine own_iload X204 hx (hb hby at_302) rfl (q := 304) rfl ?_
      refine own_iconst X204 hx (hb hby at_304) (z := 1) rfl (q := 305) rfl ?_
      refine own_iload X204 hx (hb hby at_305) rfl (q := 307) rfl ?_
      refine own_ishl X204 hx (hb hby at_307) (q := 308) rfl ?_
      refine own_iconst X204 hx (hb hby at_308) (z := 1) rfl (q := 309) rfl ?_
      refine own_isub X204 hx (hb hby at_309) (q := 310) rfl ?_
      refine own_iand X204 hx (hb hby at_310) (q := 311) rfl ?_
      obtain ⟨T208, Lc208, L208, X208, N208, hQ208, st208⟩ := own_shutS (val := some (.int (own_F5 ((Int32.ofNat M3) &&& (((1 : Int32) <<< (r &&& 31)) - (1 : Int32)))))) (Q := own_Q5 Z ((Int32.ofNat M3) &&& (((1 : Int32) <<< (r &&& 31)) - (1 : Int32))) T166.heap n0) (rc := 0) (rs := 0) N204 (fun _ _ _ q => ⟨q.1, q.2.1⟩) (Jvm.LawKit.callS X204 hx (y := (⟨"com/example/hardy_election/hardyelection/EnabledSetSetPinLaw", "pop", "(I)I"⟩ : MethodName)) hown (mvT hZ (hw _ (List.mem_of_getElem? (i := 26) rfl))) (mvT hZ (hw _ (List.mem_of_getElem? (i := 27) rfl))) (mvT hZ (hw _ (List.mem_of_getElem? (i := 24) rfl))) (mvT hZ (hw _ (List.mem_of_getElem? (i := 28) rfl))) (by decide) (backOf (W := 0) (own_rm5 l Z a0 hw [] ((Int32.ofNat M3) &&& (((1 : Int32) <<< (r &&& 31)) - (1 : Int32))) T166.heap n0 Z168 ) hZ (hw _ (List.mem_of_getElem? (i := 28) rfl)) (hw _ (List.mem_of_getElem? (i := 24) rfl)) (by decide) (by decide)) (g := (mkF m 311 #[.val (.int p0), .val (.int p1), .val (.int p2), .val (.int p3), .val (.int p4), .val (.int p5), .val (.int (Int32.ofNat N)), .val (.int (Int32.ofNat xa)), .val (.int (own_fl va)), .val (.int (Int32.ofNat xb)), .val (.int (own_fl vb)), .val (.int (Int32.ofNat xc)), .val (.int (own_fl vc)), .val (.ref b155), .val (.int (Int32.ofNat M3)), .val (.int (own_F5 (Int32.ofNat M3))), .val (.int (0 : Int32)), .val (.int (Int32.ofNat y)), .val (.int (own_M0_227 M3 y)), .val (.int (Int32.ofNat kk)), .val (.int r)] [(.int ((Int32.ofNat M3) &&& (((1 : Int32) <<< (r &&& 31)) - (1 : Int32))))])) rfl (by rw [hml]; rfl) (argsL := [(.int ((Int32.ofNat M3) &&& (((1 : Int32) <<< (r &&& 31)) - (1 : Int32))))]) (rest := []) (lenOf own_pd0 rfl) rfl (by show 2 * 0 + _ ≤ _; exact Nat.le_of_eq rfl) (hb hby at_311) (fun _ _ => ⟨rfl, e204, (by decide : 3 + 0 ≤ _), (by decide : 20 + 0 ≤ _)⟩))
      obtain ⟨-, -, e208⟩ := hQ208
      refine own_back st208 ?_
      show own_End p e below s _ _ _ (T208.setTop (mkF m 314 #[.val (.int p0), .val (.int p1), .val (.int p2), .val (.int p3), .val (.int p4), .val (.int p5), .val (.int (Int32.ofNat N)), .val (.int (Int32.ofNat xa)), .val (.int (own_fl va)), .val (.int (Int32.ofNat xb)), .val (.int (own_fl vb)), .val (.int (Int32.ofNat xc)), .val (.int (own_fl vc)), .val (.ref b155), .val (.int (Int32.ofNat M3)), .val (.int (own_F5 (Int32.ofNat M3))), .val (.int (0 : Int32)), .val (.int (Int32.ofNat y)), .val (.int (own_M0_227 M3 y)), .val (.int (Int32.ofNat kk)), .val (.int r)] [(.int (own_F5 ((Int32.ofNat M3) &&& (((1 : Int32) <<< (r &&& 31)) - (1 : Int32)))))]))
      refine own_iload X208 hx (hb hby at_314) rfl (q := 316) rfl ?_
      have hk209 : (own_F5 ((Int32.ofNat M3) &&& (((1 : Int32) <<< (r &&& 31)) - (1 : Int32)))) = (Int32.ofNat kk) := hs5
      refine own_icY X208 hx (hb hby at_316) (teq hk209).1 (q := 321) (by decide) (by decide) ?_
      refine own_iconst X208 hx (hb hby at_321) (z := 1) rfl (q := 322) rfl ?_
      refine own_retN X208 hx (t := .boolean) (by simp) Bd.returns Bd.notSynchronized (by decide) (by decide) (hb hby at_322) ?_
      show own_Q0 Z p0 p1 p2 p3 p4 p5 h0 n0 _ T208.heap _
      exact ⟨rfl, N208⟩
    · refine own_ifY X201 hx (hb hby at_253) (flt hc253_203).2.2.2 (q := 321) (by decide) (by decide) ?_
      refine own_iconst X201 hx (hb hby at_321) (z := 1) rfl (q := 322) rfl ?_
      refine own_retN X201 hx (t := .boolean) (by simp) Bd.returns Bd.notSynchronized (by decide) (by decide) (hb hby at_322) ?_
      show own_Q0 Z p0 p1 p2 p3 p4 p5 h0 n0 _ T201.heap _
      exact ⟨rfl, N201⟩

set_option maxRecDepth 65536 in
set_option maxHeartbeats 40000000 in
theorem comes_1 {Post : Tables → Env → Array Value → State → Outcome → State → Prop} (hpost : ∀ tb e args s v u, (limb_1_1.after args s (.returned v) u = true ∧ limb_1_2.after args s (.returned v) u = true ∧ True) → FrameEnd s (.returned v) u (Jvm.fieldLocs frame_1_writes args s ++ Jvm.arrayLocs frame_1_arrays args s ++ Jvm.staticLocs frame_1_statics s) 16 128 → Post tb e args s (.returned v) u) :
    ArmFor flags0 classFile x code maxLocals ret World_1 tables_1 room_1 Calls_1 rest_1 Pre_1 Post := by
  intro l hfl _ _ p e ha hc hk s m args below hf hA hF happ hP
  obtain ⟨hcalls, hrest, hpre⟩ := hP
  obtain ⟨-, -, -, hnamed, -, -, -, hat⟩ := (Spec.applies_iff hf).mp happ
  obtain ⟨hg, hn⟩ := and_e (Cond.before_iff.mp (show (Jvm.Cond.and given_1 narrow_1).before args s = true from hpre))
  obtain ⟨g212, g213⟩ := and_e hg
  obtain ⟨g214, g215⟩ := and_e g213
  obtain ⟨g216, g217⟩ := and_e g215
  obtain ⟨g218, g219⟩ := and_e g217
  obtain ⟨g220, g221⟩ := and_e g219
  obtain ⟨g222, g223⟩ := and_e g221
  obtain ⟨w0, w1, w2, w3, w4, w5, rfl⟩ : ∃ w0 w1 w2 w3 w4 w5 : Value, args = #[w0, w1, w2, w3, w4, w5] := by
    have hs : args.size = 6 := by simpa [Cond.value, given_1] using g212
    obtain ⟨L⟩ := args
    match L, hs with
    | [w0, w1, w2, w3, w4, w5], _ => exact ⟨w0, w1, w2, w3, w4, w5, rfl⟩
  have hw := fun d (hd : d ∈ tables_1) => atoms_spec (ws := Jvm.Cond.code x code maxLocals ret :: tables_1) hat d (List.mem_cons_of_mem _ hd)
  have hfit : Fit s := fun {y c} hc i hi => by
    obtain ⟨ha, rfl⟩ := Array.getElem?_eq_some_iff.mp hc
    have q := List.all_eq_true.mp ((Array.all_eq_true_iff_forall_mem.mp hF) _ (Array.getElem_mem ha)) i (List.mem_range.mpr hi)
    simpa [Array.getElem?_eq_getElem hi] using q
  obtain ⟨i0, ei0⟩ := is_v g214
  obtain rfl : w0 = (.int i0) := Option.some.inj ei0
  obtain ⟨i1, ei1⟩ := is_v g216
  obtain rfl : w1 = (.int i1) := Option.some.inj ei1
  obtain ⟨i2, ei2⟩ := is_v g218
  obtain rfl : w2 = (.int i2) := Option.some.inj ei2
  obtain ⟨i3, ei3⟩ := is_v g220
  obtain rfl : w3 = (.int i3) := Option.some.inj ei3
  obtain ⟨i4, ei4⟩ := is_v g222
  obtain rfl : w4 = (.int i4) := Option.some.inj ei4
  obtain ⟨i5, ei5⟩ := is_v g223
  obtain rfl : w5 = (.int i5) := Option.some.inj ei5
  obtain ⟨n, o, h1, h2, h3, _, L, rfl, ⟨hv, N⟩, hq⟩ := own_rm0 l s _ hw tables_1 i0 i1 i2 i3 i4 i5 s.heap s.heap.size (Nat.le_refl _)  p e ha hc hk s m _ below hf ((Spec.applies_iff_loose hf).mp happ).1 ⟨rfl, State.Warmed39.refl s, rfl⟩ trivial
  subst hv
  refine ⟨n, _, h1, h2, h3, hpost _ _ _ _ _ _ ⟨Cond.after_iff.mpr rfl, Cond.after_iff.mpr (eq_i res_at (Term.int_eval (1)) rfl), trivial⟩ ⟨hq.1, hq.2.1, (hq.2.2.sift fun y hy => Or.inr (N y hy)).mono (by decide) (by decide)⟩⟩
theorem main_1_1 : Claimed_1_1 := comes_1 fun _ _ _ _ _ _ h hF => ⟨h.1, hF⟩
theorem main_1_2 : Claimed_1_2 := comes_1 fun _ _ _ _ _ _ h hF => ⟨h.2.1, hF⟩
end Jvm.Pilot.@@N@@
namespace Jvm.Pilot.@@N@@
open Jvm Jvm.ClassFile Sem Op Lib Jvm.Free Jvm.Stand Jvm.Pilot.@@N@@.Jvm.D
/-! MADE BY PROGRAM (witnessworld.py) out of the Statement's table words and the real class files: 17 classes; the members and pool entries that the words name. The judged class is class 1, her method 3. -/
namespace start1
open Jvm.ClassFile
def u (s : String) : CpInfo := .utf8 (stringToUtf16 s)
/-- a pool by its gaps: so many unusable entries, then the entry; so many at the end -/
def gap : Nat → List CpInfo → List CpInfo
  | 0, r => r
  | n + 1, r => .unusable :: gap n r
def poolList (es : List (Nat × CpInfo)) (last : Nat) : List CpInfo := es.foldr (fun e r => gap e.1 (e.2 :: r)) (gap last [])
def pool (es : List (Nat × CpInfo)) (last : Nat) : Array CpInfo := ⟨poolList es last⟩
def fileOf (pool : Array CpInfo) (this : Nat) (attrs : Array Attribute := #[]) (ms : Array MethodInfo := #[]) (fl : Nat := 33) (sup : Nat := 0) (ifs : Array Nat := #[]) (fds : Array FieldInfo := #[]) : ClassFile where
  minorVersion := 0
  majorVersion := 65
  constantPool := pool
  accessFlags := fl
  thisClass := this
  superClass := sup
  interfaces := ifs
  fields := fds
  methods := ms
  attributes := attrs
def plain (name : String) (sup : Option ClassId) : Class where
  name := name
  kind := .ordinary
  loader := none
  accessFlags := 33
  super := sup
  interfaces := #[]
  cf := none
  fields := #[]
  methods := #[]
  instanceTypes := #[]
  staticTypes := #[]
  resolved := #[]
  callSites := []
  init := .initialized
  statics := none
  mirror := none

def pool0 : Array CpInfo := pool [(5, u "<init>"), (0, u "()V"), (1, .class_ 10), (1, u "java/lang/Object")] 113

def k0c0 : Code := { maxStack := 0, maxLocals := 1, code := object_method_1_code, exceptionTable := #[], attributes := #[] }
def k0m0 : Method := { name := "<init>", desc := "()V", sig := { parameters := [], returnType := none }, accessFlags := 1, code := some k0c0 }
/-- java/lang/Object -/
def k0 : Class := { plain "java/lang/Object" none with
  accessFlags := 33
  interfaces := #[]
  cf := some (fileOf pool0 8 #[] #[{ accessFlags := 1, nameIndex := 5, descriptorIndex := 6, attributes := #[] }] 33 0 #[] #[])
  fields := #[]
  methods := #[k0m0]
  instanceTypes := #[]
  staticTypes := #[]
  resolved := Array.replicate 124 none
  statics := none }

def pool1 : Array CpInfo := pool [(2, .class_ 4), (1, u "java/lang/Object"), (0, u "<init>"), (0, u "()V"), (0, .class_ 8), (0, u "com/example/hardy_election/hardyelection/SharedMemory$EnabledSet"), (0, .methodref 7 10), (0, .nameAndType 5 11), (0, u "(I)V"), (0, .methodref 7 13), (0, .nameAndType 14 15), (0, u "set"), (0, u "(IZ)V"), (0, .methodref 17 18), (0, .class_ 19), (0, .nameAndType 20 21), (0, u "com/example/hardy_election/hardyelection/EnabledSetSetPinLaw"), (0, u "apply"), (0, u "(IIZ)I"), (0, .methodref 17 23), (0, .nameAndType 24 25), (0, u "pop"), (0, u "(I)I"), (0, .methodref 7 27), (0, .nameAndType 28 29), (0, u "count"), (0, u "()I"), (0, .methodref 31 32), (0, .class_ 33), (0, .nameAndType 34 35), (0, u "java/lang/Math"), (0, u "min"), (0, u "(II)I"), (0, .methodref 7 37), (0, .nameAndType 38 25), (0, u "countBelow"), (0, .integer 2147483647), (0, .methodref 7 41), (0, .nameAndType 42 43), (0, u "contains"), (0, u "(I)Z"), (0, .methodref 7 45), (0, .nameAndType 46 25), (0, u "select"), (3, u "law"), (0, u "(IIIIII)Z")] 6

def k1m0 : Method := { name := "<init>", desc := "()V", sig := { parameters := [], returnType := none }, accessFlags := 1, code := none }
def k1c1 : Code := { maxStack := 3, maxLocals := 1, code := method_2_code, exceptionTable := #[], attributes := #[] }
def k1m1 : Method := { name := "pop", desc := "(I)I", sig := { parameters := [.int], returnType := some .int }, accessFlags := 10, code := some k1c1 }
def k1c2 : Code := { maxStack := 3, maxLocals := 3, code := method_3_code, exceptionTable := #[], attributes := #[] }
def k1m2 : Method := { name := "apply", desc := "(IIZ)I", sig := { parameters := [.int, .int, .boolean], returnType := some .int }, accessFlags := 10, code := some k1c2 }
def k1c3 : Code := { maxStack := 3, maxLocals := 21, code := code, exceptionTable := #[], attributes := #[] }
def k1m3 : Method := { name := "law", desc := "(IIIIII)Z", sig := { parameters := [.int, .int, .int, .int, .int, .int], returnType := some .boolean }, accessFlags := 9, code := some k1c3 }
/-- com/example/hardy_election/hardyelection/EnabledSetSetPinLaw -/
def k1 : Class := { plain "com/example/hardy_election/hardyelection/EnabledSetSetPinLaw" (some 0) with
  accessFlags := 49
  interfaces := #[]
  cf := some (fileOf pool1 17 #[] #[{ accessFlags := 1, nameIndex := 5, descriptorIndex := 6, attributes := #[] }, { accessFlags := 10, nameIndex := 24, descriptorIndex := 25, attributes := #[] }, { accessFlags := 10, nameIndex := 20, descriptorIndex := 21, attributes := #[] }, { accessFlags := 9, nameIndex := 50, descriptorIndex := 51, attributes := #[] }] 49 2 #[] #[])
  fields := #[]
  methods := #[k1m0, k1m1, k1m2, k1m3]
  instanceTypes := #[]
  staticTypes := #[]
  resolved := Array.replicate 58 none
  statics := none }

def pool2 : Array CpInfo := pool [(1, .methodref 2 3), (0, .class_ 4), (0, .nameAndType 5 6), (0, u "java/lang/Object"), (0, u "<init>"), (0, u "()V"), (0, .fieldref 8 9), (0, .class_ 10), (0, .nameAndType 11 12), (0, u "com/example/hardy_election/hardyelection/SharedMemory$EnabledSet"), (0, u "members"), (0, u "[Z"), (0, .fieldref 8 14), (0, .nameAndType 15 16), (0, u "tree"), (0, u "[I"), (0, .fieldref 8 18), (0, .nameAndType 19 20), (0, u "count"), (0, u "I"), (0, .methodref 22 23), (0, .class_ 24), (0, .nameAndType 25 26), (0, u "java/lang/Math"), (0, u "min"), (0, u "(II)I"), (0, .methodref 28 29), (0, .class_ 30), (0, .nameAndType 31 32), (0, u "java/lang/Integer"), (0, u "highestOneBit"), (0, u "(I)I"), (0, u "(I)V"), (2, u "contains"), (0, u "(I)Z"), (0, u "()I"), (0, u "set"), (0, u "(IZ)V"), (2, u "countBelow"), (0, u "select"), (3, .class_ 49), (0, u "com/example/hardy_election/hardyelection/SharedMemory")] 2

def k2c0 : Code := { maxStack := 3, maxLocals := 2, code := prog_64_method_1_code, exceptionTable := #[], attributes := #[] }
def k2m0 : Method := { name := "<init>", desc := "(I)V", sig := { parameters := [.int], returnType := none }, accessFlags := 0, code := some k2c0 }
def k2c1 : Code := { maxStack := 2, maxLocals := 2, code := prog_64_method_2_code, exceptionTable := #[], attributes := #[] }
def k2m1 : Method := { name := "contains", desc := "(I)Z", sig := { parameters := [.int], returnType := some .boolean }, accessFlags := 0, code := some k2c1 }
def k2c2 : Code := { maxStack := 1, maxLocals := 1, code := prog_64_method_3_code, exceptionTable := #[], attributes := #[] }
def k2m2 : Method := { name := "count", desc := "()I", sig := { parameters := [], returnType := some .int }, accessFlags := 0, code := some k2c2 }
def k2c3 : Code := { maxStack := 4, maxLocals := 4, code := prog_64_method_4_code, exceptionTable := #[], attributes := #[] }
def k2m3 : Method := { name := "set", desc := "(IZ)V", sig := { parameters := [.int, .boolean], returnType := none }, accessFlags := 0, code := some k2c3 }
def k2c4 : Code := { maxStack := 3, maxLocals := 4, code := prog_64_method_5_code, exceptionTable := #[], attributes := #[] }
def k2m4 : Method := { name := "countBelow", desc := "(I)I", sig := { parameters := [.int], returnType := some .int }, accessFlags := 0, code := some k2c4 }
def k2c5 : Code := { maxStack := 3, maxLocals := 5, code := prog_64_method_6_code, exceptionTable := #[], attributes := #[] }
def k2m5 : Method := { name := "select", desc := "(I)I", sig := { parameters := [.int], returnType := some .int }, accessFlags := 0, code := some k2c5 }
/-- com/example/hardy_election/hardyelection/SharedMemory$EnabledSet -/
def k2 : Class := { plain "com/example/hardy_election/hardyelection/SharedMemory$EnabledSet" (some 0) with
  accessFlags := 48
  interfaces := #[]
  cf := some (fileOf pool2 8 #[.nestHost 48] #[{ accessFlags := 0, nameIndex := 5, descriptorIndex := 33, attributes := #[] }, { accessFlags := 0, nameIndex := 36, descriptorIndex := 37, attributes := #[] }, { accessFlags := 0, nameIndex := 19, descriptorIndex := 38, attributes := #[] }, { accessFlags := 0, nameIndex := 39, descriptorIndex := 40, attributes := #[] }, { accessFlags := 0, nameIndex := 43, descriptorIndex := 32, attributes := #[] }, { accessFlags := 0, nameIndex := 44, descriptorIndex := 32, attributes := #[] }] 48 2 #[] #[{ accessFlags := 18, nameIndex := 11, descriptorIndex := 12, attributes := #[] }, { accessFlags := 18, nameIndex := 15, descriptorIndex := 16, attributes := #[] }, { accessFlags := 2, nameIndex := 19, descriptorIndex := 20, attributes := #[] }])
  fields := #[{ name := "members", type := (.array .boolean), accessFlags := 18, slot := 0, constantValue := 0 }, { name := "tree", type := (.array .int), accessFlags := 18, slot := 1, constantValue := 0 }, { name := "count", type := .int, accessFlags := 2, slot := 2, constantValue := 0 }]
  methods := #[k2m0, k2m1, k2m2, k2m3, k2m4, k2m5]
  instanceTypes := #[(.array .boolean), (.array .int), .int]
  staticTypes := #[]
  resolved := Array.replicate 52 none
  statics := none }

def pool3 : Array CpInfo := pool [(1, .class_ 2), (0, u "java/lang/Math"), (1, .class_ 6), (1, u "java/lang/Object"), (0, u "<init>"), (0, u "()V"), (89, .class_ 100), (1, u "java/lang/Math$RandomNumberGeneratorHolder"), (71, u "negativeZeroFloatBits"), (0, u "J"), (2, u "negativeZeroDoubleBits"), (24, u "min"), (43, u "$assertionsDisabled"), (0, u "Z"), (88, u "(II)I"), (2, u "twoToTheDoubleScaleDown"), (0, u "D"), (4, u "twoToTheDoubleScaleUp"), (9, u "E"), (3, u "PI"), (2, u "TAU"), (2, u "DEGREES_TO_RADIANS"), (0, u "RADIANS_TO_DEGREES")] 94

def k3m0 : Method := { name := "<init>", desc := "()V", sig := { parameters := [], returnType := none }, accessFlags := 2, code := none }
def k3c1 : Code := { maxStack := 2, maxLocals := 2, code := jdk_29_method_69_code, exceptionTable := #[], attributes := #[] }
def k3m1 : Method := { name := "min", desc := "(II)I", sig := { parameters := [.int, .int], returnType := some .int }, accessFlags := 9, code := some k3c1 }
/-- java/lang/Math -/
def k3 : Class := { plain "java/lang/Math" (some 0) with
  accessFlags := 49
  interfaces := #[]
  cf := some (fileOf pool3 1 #[.nestMembers #[98]] #[{ accessFlags := 2, nameIndex := 7, descriptorIndex := 8, attributes := #[] }, { accessFlags := 9, nameIndex := 201, descriptorIndex := 335, attributes := #[] }] 49 4 #[] #[{ accessFlags := 25, nameIndex := 354, descriptorIndex := 339, attributes := #[] }, { accessFlags := 25, nameIndex := 358, descriptorIndex := 339, attributes := #[] }, { accessFlags := 25, nameIndex := 361, descriptorIndex := 339, attributes := #[] }, { accessFlags := 26, nameIndex := 364, descriptorIndex := 339, attributes := #[] }, { accessFlags := 26, nameIndex := 365, descriptorIndex := 339, attributes := #[] }, { accessFlags := 26, nameIndex := 172, descriptorIndex := 173, attributes := #[] }, { accessFlags := 26, nameIndex := 176, descriptorIndex := 173, attributes := #[] }, { accessFlags := 8, nameIndex := 344, descriptorIndex := 339, attributes := #[] }, { accessFlags := 8, nameIndex := 338, descriptorIndex := 339, attributes := #[] }, { accessFlags := 4120, nameIndex := 245, descriptorIndex := 246, attributes := #[] }])
  fields := #[{ name := "E", type := .double, accessFlags := 25, slot := 0, constantValue := 0 }, { name := "PI", type := .double, accessFlags := 25, slot := 1, constantValue := 0 }, { name := "TAU", type := .double, accessFlags := 25, slot := 2, constantValue := 0 }, { name := "DEGREES_TO_RADIANS", type := .double, accessFlags := 26, slot := 3, constantValue := 0 }, { name := "RADIANS_TO_DEGREES", type := .double, accessFlags := 26, slot := 4, constantValue := 0 }, { name := "negativeZeroFloatBits", type := .long, accessFlags := 26, slot := 5, constantValue := 0 }, { name := "negativeZeroDoubleBits", type := .long, accessFlags := 26, slot := 6, constantValue := 0 }, { name := "twoToTheDoubleScaleUp", type := .double, accessFlags := 8, slot := 7, constantValue := 0 }, { name := "twoToTheDoubleScaleDown", type := .double, accessFlags := 8, slot := 8, constantValue := 0 }, { name := "$assertionsDisabled", type := .boolean, accessFlags := 4120, slot := 9, constantValue := 0 }]
  methods := #[k3m0, k3m1]
  instanceTypes := #[]
  staticTypes := #[.double, .double, .double, .double, .double, .long, .long, .double, .double, .boolean]
  resolved := Array.replicate 460 none
  statics := none }

def pool4 : Array CpInfo := pool [(1, .class_ 2), (0, u "java/io/Serializable"), (0, .class_ 4), (0, u "java/lang/Object")] 2

/-- java/io/Serializable -/
def k4 : Class := { plain "java/io/Serializable" (some 0) with
  accessFlags := 1537
  interfaces := #[]
  cf := some (fileOf pool4 1 #[] #[] 1537 3 #[] #[])
  fields := #[]
  methods := #[]
  instanceTypes := #[]
  staticTypes := #[]
  resolved := Array.replicate 7 none
  statics := none }

def pool5 : Array CpInfo := pool [(2, .class_ 4), (1, u "java/lang/Object"), (0, u "<init>"), (0, u "()V"), (1, .class_ 10), (1, u "java/lang/Number"), (2, .class_ 14), (0, u "java/io/Serializable"), (0, u "serialVersionUID"), (0, u "J")] 20

def k5m0 : Method := { name := "<init>", desc := "()V", sig := { parameters := [], returnType := none }, accessFlags := 1, code := none }
/-- java/lang/Number -/
def k5 : Class := { plain "java/lang/Number" (some 0) with
  accessFlags := 1057
  interfaces := #[4]
  cf := some (fileOf pool5 8 #[] #[{ accessFlags := 1, nameIndex := 5, descriptorIndex := 6, attributes := #[] }] 1057 2 #[13] #[{ accessFlags := 26, nameIndex := 15, descriptorIndex := 16, attributes := #[] }])
  fields := #[{ name := "serialVersionUID", type := .long, accessFlags := 26, slot := 0, constantValue := 0 }]
  methods := #[k5m0]
  instanceTypes := #[]
  staticTypes := #[.long]
  resolved := Array.replicate 37 none
  statics := none }

def pool6 : Array CpInfo := pool [(1, .class_ 2), (0, u "java/lang/Comparable"), (0, .class_ 4), (0, u "java/lang/Object")] 7

/-- java/lang/Comparable -/
def k6 : Class := { plain "java/lang/Comparable" (some 0) with
  accessFlags := 1537
  interfaces := #[]
  cf := some (fileOf pool6 1 #[] #[] 1537 3 #[] #[])
  fields := #[]
  methods := #[]
  instanceTypes := #[]
  staticTypes := #[]
  resolved := Array.replicate 12 none
  statics := none }

def pool7 : Array CpInfo := pool [(1, .class_ 2), (0, u "java/lang/constant/Constable"), (0, .class_ 4), (0, u "java/lang/Object")] 6

/-- java/lang/constant/Constable -/
def k7 : Class := { plain "java/lang/constant/Constable" (some 0) with
  accessFlags := 1537
  interfaces := #[]
  cf := some (fileOf pool7 1 #[] #[] 1537 3 #[] #[])
  fields := #[]
  methods := #[]
  instanceTypes := #[]
  staticTypes := #[]
  resolved := Array.replicate 11 none
  statics := none }

def pool8 : Array CpInfo := pool [(1, .class_ 2), (0, u "java/lang/constant/ConstantDesc"), (0, .class_ 4), (0, u "java/lang/Object")] 32

/-- java/lang/constant/ConstantDesc -/
def k8 : Class := { plain "java/lang/constant/ConstantDesc" (some 0) with
  accessFlags := 1537
  interfaces := #[]
  cf := some (fileOf pool8 1 #[] #[] 1537 3 #[] #[])
  fields := #[]
  methods := #[]
  instanceTypes := #[]
  staticTypes := #[]
  resolved := Array.replicate 37 none
  statics := none }

def pool9 : Array CpInfo := pool [(1, .class_ 2), (0, u "java/lang/Integer"), (16, u "digits"), (0, u "[C"), (30, .methodref 1 52), (0, .nameAndType 53 54), (0, u "numberOfLeadingZeros"), (0, u "(I)I"), (30, u "DigitOnes"), (0, u "[B"), (2, u "DigitTens"), (37, .integer 2147483648), (61, .class_ 190), (0, u "java/lang/Integer$IntegerCache"), (3, u "I"), (8, .class_ 204), (0, u "java/lang/Number"), (2, u "value"), (56, .integer 65536), (37, u "TYPE"), (0, u "Ljava/lang/Class;"), (0, .class_ 305), (0, u "java/lang/Comparable"), (0, .class_ 307), (0, u "java/lang/constant/Constable"), (0, .class_ 309), (0, u "java/lang/constant/ConstantDesc"), (0, u "MIN_VALUE"), (1, u "MAX_VALUE"), (3, u "SIZE"), (1, u "BYTES"), (1, u "serialVersionUID"), (0, u "J"), (81, u "highestOneBit")] 49

def k9c0 : Code := { maxStack := 3, maxLocals := 1, code := jdk_33_method_45_code, exceptionTable := #[], attributes := #[] }
def k9m0 : Method := { name := "highestOneBit", desc := "(I)I", sig := { parameters := [.int], returnType := some .int }, accessFlags := 9, code := some k9c0 }
def k9c1 : Code := { maxStack := 3, maxLocals := 2, code := jdk_33_method_47_code, exceptionTable := #[], attributes := #[] }
def k9m1 : Method := { name := "numberOfLeadingZeros", desc := "(I)I", sig := { parameters := [.int], returnType := some .int }, accessFlags := 9, code := some k9c1 }
/-- java/lang/Integer -/
def k9 : Class := { plain "java/lang/Integer" (some 5) with
  accessFlags := 49
  interfaces := #[6, 7, 8]
  cf := some (fileOf pool9 1 #[.nestMembers #[189]] #[{ accessFlags := 9, nameIndex := 403, descriptorIndex := 54, attributes := #[] }, { accessFlags := 9, nameIndex := 53, descriptorIndex := 54, attributes := #[] }] 49 203 #[304, 306, 308] #[{ accessFlags := 25, nameIndex := 310, descriptorIndex := 194, attributes := #[] }, { accessFlags := 25, nameIndex := 312, descriptorIndex := 194, attributes := #[] }, { accessFlags := 25, nameIndex := 302, descriptorIndex := 303, attributes := #[] }, { accessFlags := 24, nameIndex := 19, descriptorIndex := 20, attributes := #[] }, { accessFlags := 24, nameIndex := 89, descriptorIndex := 86, attributes := #[] }, { accessFlags := 24, nameIndex := 85, descriptorIndex := 86, attributes := #[] }, { accessFlags := 18, nameIndex := 207, descriptorIndex := 194, attributes := #[] }, { accessFlags := 25, nameIndex := 316, descriptorIndex := 194, attributes := #[] }, { accessFlags := 25, nameIndex := 318, descriptorIndex := 194, attributes := #[] }, { accessFlags := 26, nameIndex := 320, descriptorIndex := 321, attributes := #[] }])
  fields := #[{ name := "MIN_VALUE", type := .int, accessFlags := 25, slot := 0, constantValue := 0 }, { name := "MAX_VALUE", type := .int, accessFlags := 25, slot := 1, constantValue := 0 }, { name := "TYPE", type := (.object "java/lang/Class"), accessFlags := 25, slot := 2, constantValue := 0 }, { name := "digits", type := (.array .char), accessFlags := 24, slot := 3, constantValue := 0 }, { name := "DigitTens", type := (.array .byte), accessFlags := 24, slot := 4, constantValue := 0 }, { name := "DigitOnes", type := (.array .byte), accessFlags := 24, slot := 5, constantValue := 0 }, { name := "value", type := .int, accessFlags := 18, slot := 0, constantValue := 0 }, { name := "SIZE", type := .int, accessFlags := 25, slot := 6, constantValue := 0 }, { name := "BYTES", type := .int, accessFlags := 25, slot := 7, constantValue := 0 }, { name := "serialVersionUID", type := .long, accessFlags := 26, slot := 8, constantValue := 0 }]
  methods := #[k9m0, k9m1]
  instanceTypes := #[.int]
  staticTypes := #[.int, .int, (.object "java/lang/Class"), (.array .char), (.array .byte), (.array .byte), .int, .int, .long]
  resolved := Array.replicate 453 none
  statics := none }

def pool10 : Array CpInfo := pool [(1, u "java/lang/Cloneable"), (0, .class_ 1), (0, u "java/lang/Object"), (0, .class_ 3)] 3

/-- java/lang/Cloneable -/
def k10 : Class := { plain "java/lang/Cloneable" (some 0) with
  accessFlags := 1537
  interfaces := #[]
  cf := some (fileOf pool10 2 #[] #[] 1537 4 #[] #[])
  fields := #[]
  methods := #[]
  instanceTypes := #[]
  staticTypes := #[]
  resolved := Array.replicate 8 none
  statics := none }

/-- the primitive boolean -/
def k11 : Class := { plain "boolean" none with kind := .primitive 'Z', accessFlags := 0x411 }
/-- [Z -/
def k12 : Class := { plain "[Z" (some 0) with kind := .array 11 .boolean, interfaces := #[10, 4], accessFlags := 1041 }

/-- the primitive byte -/
def k13 : Class := { plain "byte" none with kind := .primitive 'B', accessFlags := 0x411 }
/-- [B -/
def k14 : Class := { plain "[B" (some 0) with kind := .array 13 .byte, interfaces := #[10, 4], accessFlags := 1041 }

/-- the primitive int -/
def k15 : Class := { plain "int" none with kind := .primitive 'I', accessFlags := 0x411 }
/-- [I -/
def k16 : Class := { plain "[I" (some 0) with kind := .array 15 .int, interfaces := #[10, 4], accessFlags := 1041 }

def heap : Heap := #[]
def classes : Array Class := #[k0, k1, k2, k3, k4, k5, k6, k7, k8, k9, k10, k11, k12, k13, k14, k15, k16]
def interned : List (Array UInt16 × Addr) := []
def slotsUsed : Nat := 0
def theMethod : MethodId := ⟨1, 3⟩
def args0 : Array Value := #[.int 3, .int 4, .int 5, .int 6, .int 7, .int 8]
def aboutOver (below : List Frame) : State where
  vm := { classes := classes, interned := interned.toArray }
  heap := heap
  slotsUsed := slotsUsed
  threads := #[{ frames := .invoking theMethod args0 :: below }]
def below0 : List Frame := [.native { method := ⟨0, 0⟩, args := #[] }]
def about1 : State := aboutOver below0
def p0 : Program := .bare "" "" ""
def e0 : Env := launch0.env 0 0 0
theorem w_frames : about1.frames = Frame.invoking theMethod args0 :: below0 := rfl
set_option maxRecDepth 65536 in
theorem w_args : argsFit about1.vm theMethod args0 = true := by decide +kernel
set_option maxRecDepth 65536 in
theorem w_heap : heapFits about1 = true := by decide +kernel
set_option maxRecDepth 65536 in
theorem w_runnable : about1.curStatus? = some .runnable := by decide +kernel
set_option maxRecDepth 65536 in
theorem w_alone : about1.alone = true := by decide +kernel
set_option maxRecDepth 65536 in
theorem w_named : about1.methodNamed? x = some theMethod := by decide +kernel
set_option maxRecDepth 65536 in
theorem w_hears : about1.hears theMethod below0 = true := by decide +kernel
set_option maxRecDepth 65536 in
theorem w_ripe : about1.ripe theMethod args0 below0 = true := by decide +kernel
theorem w_running : about1.status = .running := rfl
set_option maxRecDepth 65536 in
theorem w_room : about1.hasRoom e0.platform room_1 = true :=
  launch0.hasRoom_least _ room_1 (by decide +kernel) (by decide +kernel) (by decide +kernel) (by decide +kernel) (by decide +kernel) (by decide +kernel)
theorem allAtoms_all (ts : List Jvm.Cond) (a : Array Jvm.Value) (st : Jvm.State) : (allAtoms ts).before a st = ts.all (fun c => c.before a st) := by
  induction ts with
  | nil => rfl
  | cons c t ih =>
    show (Jvm.Cond.and c (allAtoms t)).before a st = _
    rw [Jvm.Cond.before_and, ih, List.all_cons]
def words1 : List Jvm.Cond := Jvm.Cond.code x code maxLocals ret :: tables_1
/-- a 'code' word, met by the world's own term for the bytes: nothing is compared byte by byte -/
theorem code_word {y : MethodName} {bytes : ByteArray} {mx : Nat} {rt : Option FieldType} {a : Array Value} {s : State} {m : MethodId} {meth : Method} {c : Code} (h1 : s.methodNamed? y = some m) (h2 : s.vm.method? m = some meth) (h3 : meth.code = some c) (h4 : c.code = bytes)
    (h5 : (c.maxLocals == mx && c.exceptionTable.isEmpty && decide (c.maxStack ≤ mostOperands) && decide (meth.sig.returnType = rt) && !meth.locks && decide (parseMethodDescriptor y.desc = some meth.sig)) = true) : (Jvm.Cond.code y bytes mx rt).before a s = true := by
  simp only [Bool.and_eq_true, beq_iff_eq, Bool.not_eq_true', decide_eq_true_eq] at h5
  obtain ⟨⟨⟨⟨⟨g1, g2⟩, g3⟩, g4⟩, g5⟩, g6⟩ := h5
  simp [Cond.before, Cond.holds, Cond.value, h1, h2, h3, h4, g1, g2, g3, g4, g5, g6]
def isCode : Jvm.Cond → Bool
  | .code _ _ _ _ => true
  | _ => false
theorem all_split {L : List Jvm.Cond} {P : Jvm.Cond → Bool} (h1 : L.all (fun c => isCode c || P c) = true) (h2 : ∀ c ∈ L.filter isCode, P c = true) : L.all P = true := by
  refine List.all_eq_true.mpr fun c hc => ?_
  have h := List.all_eq_true.mp h1 c hc
  rcases Bool.eq_false_or_eq_true (isCode c) with hi | hi
  · exact h2 c (List.mem_filter.mpr ⟨hc, hi⟩)
  · simpa [hi] using h
set_option maxRecDepth 65536 in
theorem w_c0 : (Jvm.Cond.code x code maxLocals ret).before args0 about1 = true := code_word (m := ⟨1, 3⟩) (meth := k1m3) (c := k1c3) (by decide +kernel) rfl rfl rfl (by decide +kernel)
set_option maxRecDepth 65536 in
theorem w_c1 : (Jvm.Cond.code ({ cls := "com/example/hardy_election/hardyelection/SharedMemory$EnabledSet", name := "<init>", desc := "(I)V" } : Jvm.MethodName) prog_64_method_1_code (2 : Nat) (Option.none : Option Jvm.ClassFile.FieldType)).before args0 about1 = true := code_word (m := ⟨2, 0⟩) (meth := k2m0) (c := k2c0) (by decide +kernel) rfl rfl rfl (by decide +kernel)
set_option maxRecDepth 65536 in
theorem w_c2 : (Jvm.Cond.code ({ cls := "java/lang/Object", name := "<init>", desc := "()V" } : Jvm.MethodName) object_method_1_code (1 : Nat) (Option.none : Option Jvm.ClassFile.FieldType)).before args0 about1 = true := code_word (m := ⟨0, 0⟩) (meth := k0m0) (c := k0c0) (by decide +kernel) rfl rfl rfl (by decide +kernel)
set_option maxRecDepth 65536 in
theorem w_c3 : (Jvm.Cond.code ({ cls := "com/example/hardy_election/hardyelection/SharedMemory$EnabledSet", name := "set", desc := "(IZ)V" } : Jvm.MethodName) prog_64_method_4_code (4 : Nat) (Option.none : Option Jvm.ClassFile.FieldType)).before args0 about1 = true := code_word (m := ⟨2, 3⟩) (meth := k2m3) (c := k2c3) (by decide +kernel) rfl rfl rfl (by decide +kernel)
set_option maxRecDepth 65536 in
theorem w_c4 : (Jvm.Cond.code ({ cls := "com/example/hardy_election/hardyelection/EnabledSetSetPinLaw", name := "apply", desc := "(IIZ)I" } : Jvm.MethodName) method_3_code (3 : Nat) (Option.some Jvm.ClassFile.FieldType.int)).before args0 about1 = true := code_word (m := ⟨1, 2⟩) (meth := k1m2) (c := k1c2) (by decide +kernel) rfl rfl rfl (by decide +kernel)
set_option maxRecDepth 65536 in
theorem w_c5 : (Jvm.Cond.code ({ cls := "com/example/hardy_election/hardyelection/EnabledSetSetPinLaw", name := "pop", desc := "(I)I" } : Jvm.MethodName) method_2_code (1 : Nat) (Option.some Jvm.ClassFile.FieldType.int)).before args0 about1 = true := code_word (m := ⟨1, 1⟩) (meth := k1m1) (c := k1c1) (by decide +kernel) rfl rfl rfl (by decide +kernel)
set_option maxRecDepth 65536 in
theorem w_c6 : (Jvm.Cond.code ({ cls := "com/example/hardy_election/hardyelection/SharedMemory$EnabledSet", name := "count", desc := "()I" } : Jvm.MethodName) prog_64_method_3_code (1 : Nat) (Option.some Jvm.ClassFile.FieldType.int)).before args0 about1 = true := code_word (m := ⟨2, 2⟩) (meth := k2m2) (c := k2c2) (by decide +kernel) rfl rfl rfl (by decide +kernel)
set_option maxRecDepth 65536 in
theorem w_c7 : (Jvm.Cond.code ({ cls := "com/example/hardy_election/hardyelection/SharedMemory$EnabledSet", name := "countBelow", desc := "(I)I" } : Jvm.MethodName) prog_64_method_5_code (4 : Nat) (Option.some Jvm.ClassFile.FieldType.int)).before args0 about1 = true := code_word (m := ⟨2, 4⟩) (meth := k2m4) (c := k2c4) (by decide +kernel) rfl rfl rfl (by decide +kernel)
set_option maxRecDepth 65536 in
theorem w_c8 : (Jvm.Cond.code ({ cls := "java/lang/Math", name := "min", desc := "(II)I" } : Jvm.MethodName) jdk_29_method_69_code (2 : Nat) (Option.some Jvm.ClassFile.FieldType.int)).before args0 about1 = true := code_word (m := ⟨3, 1⟩) (meth := k3m1) (c := k3c1) (by decide +kernel) rfl rfl rfl (by decide +kernel)
set_option maxRecDepth 65536 in
theorem w_c9 : (Jvm.Cond.code ({ cls := "com/example/hardy_election/hardyelection/SharedMemory$EnabledSet", name := "contains", desc := "(I)Z" } : Jvm.MethodName) prog_64_method_2_code (2 : Nat) (Option.some Jvm.ClassFile.FieldType.boolean)).before args0 about1 = true := code_word (m := ⟨2, 1⟩) (meth := k2m1) (c := k2c1) (by decide +kernel) rfl rfl rfl (by decide +kernel)
set_option maxRecDepth 65536 in
theorem w_c10 : (Jvm.Cond.code ({ cls := "com/example/hardy_election/hardyelection/SharedMemory$EnabledSet", name := "select", desc := "(I)I" } : Jvm.MethodName) prog_64_method_6_code (5 : Nat) (Option.some Jvm.ClassFile.FieldType.int)).before args0 about1 = true := code_word (m := ⟨2, 5⟩) (meth := k2m5) (c := k2c5) (by decide +kernel) rfl rfl rfl (by decide +kernel)
set_option maxRecDepth 65536 in
theorem w_c11 : (Jvm.Cond.code ({ cls := "java/lang/Integer", name := "highestOneBit", desc := "(I)I" } : Jvm.MethodName) jdk_33_method_45_code (1 : Nat) (Option.some Jvm.ClassFile.FieldType.int)).before args0 about1 = true := code_word (m := ⟨9, 0⟩) (meth := k9m0) (c := k9c0) (by decide +kernel) rfl rfl rfl (by decide +kernel)
set_option maxRecDepth 65536 in
theorem w_c12 : (Jvm.Cond.code ({ cls := "java/lang/Integer", name := "numberOfLeadingZeros", desc := "(I)I" } : Jvm.MethodName) jdk_33_method_47_code (2 : Nat) (Option.some Jvm.ClassFile.FieldType.int)).before args0 about1 = true := code_word (m := ⟨9, 1⟩) (meth := k9m1) (c := k9c1) (by decide +kernel) rfl rfl rfl (by decide +kernel)
def codes1 : List Jvm.Cond := [Jvm.Cond.code x code maxLocals ret, Jvm.Cond.code ({ cls := "com/example/hardy_election/hardyelection/SharedMemory$EnabledSet", name := "<init>", desc := "(I)V" } : Jvm.MethodName) prog_64_method_1_code (2 : Nat) (Option.none : Option Jvm.ClassFile.FieldType), Jvm.Cond.code ({ cls := "java/lang/Object", name := "<init>", desc := "()V" } : Jvm.MethodName) object_method_1_code (1 : Nat) (Option.none : Option Jvm.ClassFile.FieldType), Jvm.Cond.code ({ cls := "com/example/hardy_election/hardyelection/SharedMemory$EnabledSet", name := "set", desc := "(IZ)V" } : Jvm.MethodName) prog_64_method_4_code (4 : Nat) (Option.none : Option Jvm.ClassFile.FieldType), Jvm.Cond.code ({ cls := "com/example/hardy_election/hardyelection/EnabledSetSetPinLaw", name := "apply", desc := "(IIZ)I" } : Jvm.MethodName) method_3_code (3 : Nat) (Option.some Jvm.ClassFile.FieldType.int), Jvm.Cond.code ({ cls := "com/example/hardy_election/hardyelection/EnabledSetSetPinLaw", name := "pop", desc := "(I)I" } : Jvm.MethodName) method_2_code (1 : Nat) (Option.some Jvm.ClassFile.FieldType.int), Jvm.Cond.code ({ cls := "com/example/hardy_election/hardyelection/SharedMemory$EnabledSet", name := "count", desc := "()I" } : Jvm.MethodName) prog_64_method_3_code (1 : Nat) (Option.some Jvm.ClassFile.FieldType.int), Jvm.Cond.code ({ cls := "com/example/hardy_election/hardyelection/SharedMemory$EnabledSet", name := "countBelow", desc := "(I)I" } : Jvm.MethodName) prog_64_method_5_code (4 : Nat) (Option.some Jvm.ClassFile.FieldType.int), Jvm.Cond.code ({ cls := "java/lang/Math", name := "min", desc := "(II)I" } : Jvm.MethodName) jdk_29_method_69_code (2 : Nat) (Option.some Jvm.ClassFile.FieldType.int), Jvm.Cond.code ({ cls := "com/example/hardy_election/hardyelection/SharedMemory$EnabledSet", name := "contains", desc := "(I)Z" } : Jvm.MethodName) prog_64_method_2_code (2 : Nat) (Option.some Jvm.ClassFile.FieldType.boolean), Jvm.Cond.code ({ cls := "com/example/hardy_election/hardyelection/SharedMemory$EnabledSet", name := "select", desc := "(I)I" } : Jvm.MethodName) prog_64_method_6_code (5 : Nat) (Option.some Jvm.ClassFile.FieldType.int), Jvm.Cond.code ({ cls := "java/lang/Integer", name := "highestOneBit", desc := "(I)I" } : Jvm.MethodName) jdk_33_method_45_code (1 : Nat) (Option.some Jvm.ClassFile.FieldType.int), Jvm.Cond.code ({ cls := "java/lang/Integer", name := "numberOfLeadingZeros", desc := "(I)I" } : Jvm.MethodName) jdk_33_method_47_code (2 : Nat) (Option.some Jvm.ClassFile.FieldType.int)]
set_option maxRecDepth 65536 in
theorem codes_eq : words1.filter isCode = codes1 := rfl
theorem w_codes : ∀ c ∈ words1.filter isCode, c.before args0 about1 = true := by
  rw [codes_eq]
  intro c hc
  simp only [codes1, List.mem_cons, List.not_mem_nil, or_false] at hc
  rcases hc with rfl | rfl | rfl | rfl | rfl | rfl | rfl | rfl | rfl | rfl | rfl | rfl | rfl
  · exact w_c0
  · exact w_c1
  · exact w_c2
  · exact w_c3
  · exact w_c4
  · exact w_c5
  · exact w_c6
  · exact w_c7
  · exact w_c8
  · exact w_c9
  · exact w_c10
  · exact w_c11
  · exact w_c12
set_option maxRecDepth 65536 in
theorem w_t1 : (words1.take 24).all (fun c => isCode c || c.before args0 about1) = true := by decide +kernel
set_option maxRecDepth 65536 in
theorem w_t2 : ((words1.drop 24).take 24).all (fun c => isCode c || c.before args0 about1) = true := by decide +kernel
set_option maxRecDepth 65536 in
theorem w_t3 : ((words1.drop 24).drop 24).all (fun c => isCode c || c.before args0 about1) = true := by decide +kernel
theorem w_tables : (allAtoms (Jvm.Cond.code x code maxLocals ret :: tables_1)).before args0 about1 = true := by
  rw [allAtoms_all]
  show words1.all (fun c => c.before args0 about1) = true
  refine all_split ?_ w_codes
  rw [← List.take_append_drop 24 words1, List.all_append, w_t1, ← List.take_append_drop 24 (words1.drop 24), List.all_append, w_t2, w_t3]
  rfl
set_option maxRecDepth 65536 in
theorem w_case : (Jvm.Cond.and given_1 narrow_1).before args0 about1 = true := by decide +kernel
theorem w_applies : (headSpec (Jvm.Cond.code x code maxLocals ret :: tables_1) room_1).applies x e0.platform about1 = true :=
  (Spec.applies_iff w_frames).mpr ⟨w_running, w_runnable, w_alone, w_named, w_hears, w_ripe, w_room, w_tables⟩
theorem atStart : AtStart classFile x code maxLocals ret World_1 tables_1 room_1 Calls_1 rest_1 Pre_1 launch0 p0 e0 about1 theMethod args0 below0 :=
  ⟨lists_1, trivial, launch0.admits_env _ _ _, launch0.least_env, fairChoices_fair.cas, fairChoices_fair.clock, w_frames, w_args, w_heap, w_applies, trivial, trivial, w_case⟩
end start1
theorem witness_1 : WitnessClaimed_1 := ⟨start1.p0, start1.e0, start1.about1, start1.theMethod, start1.args0, start1.below0, start1.atStart⟩
end Jvm.Pilot.@@N@@
