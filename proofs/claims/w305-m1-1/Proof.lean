import JvmDerived
import JvmDerived.Pilot.@@N@@Statement
import JvmDerived.Pilot.@@N@@Code
set_option linter.unusedVariables false
set_option linter.unusedSimpArgs false
@@BLOCK:NumsL.lean.txt@@
namespace Jvm.Pilot.@@N@@
open Jvm Jvm.ClassFile Sem Op Lib Jvm.Free Jvm.Stand Jvm.LawKit Jvm.RoadKit Bundle Jvm.Pilot.@@N@@.Jvm.D
section Own
variable {p : Program} {l : Launch} {e : Env} {R : Room} {s : State} {m : MethodId} {args : Array Value} {below : List Frame} {meth : Method} {c : Code} {T : State} {locs : List Loc} {cells slots : Nat} {Q : Option Value → Heap → List Loc → Prop} {K N : Nat} {s' : State} {E : State → Outcome → State → List Loc → Nat → Nat → Prop}
/-- the run from a ends in a return of which Q holds, within the frame -/
def own_End (p : Program) (e : Env) (below : List Frame) (s : State) (Q : Option Value → Heap → List Loc → Prop) (K N : Nat) (a : State) (E : State → Outcome → State → List Loc → Nat → Nat → Prop := FrameEnd) : Prop :=
  ∃ s₂ o, Steps p.tables e below a s₂ ∧ s₂.status = .running ∧ Ended s₂ below o ∧ ∃ v L, o = .returned v ∧ Q v s₂.heap L ∧ E s o s₂ L K N
theorem own_back {a b : State} (k : ∀ t, Steps p.tables e below b t → Steps p.tables e below a t) (h : own_End p e below s Q K N b E) : own_End p e below s Q K N a E := by
  obtain ⟨s₂, o, h1, h2⟩ := h
  exact ⟨s₂, o, k _ h1, h2⟩
theorem own_via {a b : State} (k : Steps p.tables e below a b) (h : own_End p e below s Q K N b E) : own_End p e below s Q K N a E :=
  own_back (fun _ j => k.trans j) h
/-- behind a call by contract: nothing to substitute, the places written under a name of their own -/
theorem own_shutS {g : JFrame} {rest : List Value} {Q : Option Value → Heap → List Loc → Prop} {rc rs n0 : Nat} {val : Option Value} (N : Fr n0 locs) (hv : ∀ v h L, Q v h L → v = val ∧ Fr n0 L)
    (H : ∃ (v : Option Value) (vm₁ : Vm) (B : Pt), s.WarmedH vm₁ ∧ Stand p l e R s m args below meth c B.U B.locs B.cells B.slots ∧ (∃ L, Q v B.U.heap L ∧ B.locs = locs ++ L ∧ B.cells = cells + rc ∧ B.slots = slots + rs) ∧
      ∀ target, Steps p.tables e below (B.U.setTop { g with pc := g.pc + 3, stack := v.toList ++ rest }) target → Steps p.tables e below (T.setTop g) target) :
    ∃ (T' : State) (L L' : List Loc), Stand p l e R s m args below meth c T' L' (cells + rc) (slots + rs) ∧ Fr n0 L' ∧ Q val T'.heap L ∧ ∀ target, Steps p.tables e below (T'.setTop { g with pc := g.pc + 3, stack := val.toList ++ rest }) target → Steps p.tables e below (T.setTop g) target := by
  obtain ⟨v, vm₁, ⟨T', L', k', n'⟩, -, X, ⟨L, q, l1, l2, l3⟩, st⟩ := H
  subst l1 l2 l3
  obtain ⟨hv1, hv2⟩ := hv _ _ _ q
  cases hv1
  exact ⟨T', L, _, X, N.app hv2, q, st⟩
theorem own_shutV {g : JFrame} {rest : List Value} {Q : Option Value → Heap → List Loc → Prop} {rc rs n0 : Nat} {val : Option Value} {s₀ : State} (N : Fr n0 locs) (hv : ∀ v h L, Q v h L → v = val ∧ Fr n0 L)
    (H : ∃ (v : Option Value) (vm₁ : Vm) (B : Pt), s.WarmedH vm₁ ∧ Stand p l e R s m args below meth c B.U B.locs B.cells B.slots ∧ (∃ L, Q v B.U.heap L ∧ B.locs = locs ++ L ∧ B.cells = cells + rc ∧ B.slots = slots + rs) ∧
      Steps p.tables e below s₀ (B.U.setTop { g with pc := g.pc + 3, stack := v.toList ++ rest })) :
    ∃ (T' : State) (L L' : List Loc), Stand p l e R s m args below meth c T' L' (cells + rc) (slots + rs) ∧ Fr n0 L' ∧ Q val T'.heap L ∧ Steps p.tables e below s₀ (T'.setTop { g with pc := g.pc + 3, stack := val.toList ++ rest }) := by
  obtain ⟨v, vm₁, ⟨T', L', k', n'⟩, -, X, ⟨L, q, l1, l2, l3⟩, st⟩ := H
  subst l1 l2 l3
  obtain ⟨hv1, hv2⟩ := hv _ _ _ q
  cases hv1
  exact ⟨T', L, _, X, N.app hv2, q, st⟩
theorem own_gl {n0 : Nat} (X : Stand p l e R s m args below meth c T locs cells slots) (N : Fr n0 locs) : ∃ L, Stand p l e R s m args below meth c T L cells slots ∧ Fr n0 L := ⟨_, X, N⟩
theorem own_selfsel {y : MethodName} {n : Nat} (wi : (Jvm.Cond.instantiable y.cls n).before args s = true) (hp : s.PrivateAt y) (hi : (Jvm.Cond.instanceMethod y).before args s = true) (hy : y.cls ≠ "java/lang/invoke/MethodHandle" ∧ y.cls ≠ "java/lang/invoke/VarHandle") : (Jvm.Cond.selects y.cls y y).before args s = true := by
  obtain ⟨c, k, h1, h2, -, h4, -⟩ := Cond.instantiable_spec wi
  exact selects_self_of_private h1 h2 (Bool.or_eq_false_iff.mp h4).1 hp hi hy
theorem own_cast {a b : State} (q : a = b) (h : own_End p e below s Q K N b E) : own_End p e below s Q K N a E := q ▸ h
theorem own_iadd (X : Stand p l e R s' m args below meth c T locs cells slots) (hx : p.tables.exec = Jvm.exec) {pc q : Nat} {Ls : Array Slot} {rest : List Value} (hd : decode c.code pc = .ok (.iadd, 1)) {x y : Int32} (hq : pc + 1 = q) (h : own_End p e below s Q K N (T.setTop (mkF m q Ls (.int (x + y) :: rest))) E) : own_End p e below s Q K N (T.setTop (mkF m pc Ls (.int y :: .int x :: rest))) E := by
  subst hq; exact own_back (fun _ k => XS.iadd X.here hx rfl hd rfl k) h
theorem own_isub (X : Stand p l e R s' m args below meth c T locs cells slots) (hx : p.tables.exec = Jvm.exec) {pc q : Nat} {Ls : Array Slot} {rest : List Value} (hd : decode c.code pc = .ok (.isub, 1)) {x y : Int32} (hq : pc + 1 = q) (h : own_End p e below s Q K N (T.setTop (mkF m q Ls (.int (x - y) :: rest))) E) : own_End p e below s Q K N (T.setTop (mkF m pc Ls (.int y :: .int x :: rest))) E := by
  subst hq; exact own_back (fun _ k => XS.isub X.here hx rfl hd rfl k) h
theorem own_imul (X : Stand p l e R s' m args below meth c T locs cells slots) (hx : p.tables.exec = Jvm.exec) {pc q : Nat} {Ls : Array Slot} {rest : List Value} (hd : decode c.code pc = .ok (.imul, 1)) {x y : Int32} (hq : pc + 1 = q) (h : own_End p e below s Q K N (T.setTop (mkF m q Ls (.int (x * y) :: rest))) E) : own_End p e below s Q K N (T.setTop (mkF m pc Ls (.int y :: .int x :: rest))) E := by
  subst hq; exact own_back (fun _ k => XS.imul X.here hx rfl hd rfl k) h
theorem own_iand (X : Stand p l e R s' m args below meth c T locs cells slots) (hx : p.tables.exec = Jvm.exec) {pc q : Nat} {Ls : Array Slot} {rest : List Value} (hd : decode c.code pc = .ok (.iand, 1)) {x y : Int32} (hq : pc + 1 = q) (h : own_End p e below s Q K N (T.setTop (mkF m q Ls (.int (x &&& y) :: rest))) E) : own_End p e below s Q K N (T.setTop (mkF m pc Ls (.int y :: .int x :: rest))) E := by
  subst hq; exact own_back (fun _ k => XS.iand X.here hx rfl hd rfl k) h
theorem own_ior (X : Stand p l e R s' m args below meth c T locs cells slots) (hx : p.tables.exec = Jvm.exec) {pc q : Nat} {Ls : Array Slot} {rest : List Value} (hd : decode c.code pc = .ok (.ior, 1)) {x y : Int32} (hq : pc + 1 = q) (h : own_End p e below s Q K N (T.setTop (mkF m q Ls (.int (x ||| y) :: rest))) E) : own_End p e below s Q K N (T.setTop (mkF m pc Ls (.int y :: .int x :: rest))) E := by
  subst hq; exact own_back (fun _ k => XS.ior X.here hx rfl hd rfl k) h
theorem own_ixor (X : Stand p l e R s' m args below meth c T locs cells slots) (hx : p.tables.exec = Jvm.exec) {pc q : Nat} {Ls : Array Slot} {rest : List Value} (hd : decode c.code pc = .ok (.ixor, 1)) {x y : Int32} (hq : pc + 1 = q) (h : own_End p e below s Q K N (T.setTop (mkF m q Ls (.int (x ^^^ y) :: rest))) E) : own_End p e below s Q K N (T.setTop (mkF m pc Ls (.int y :: .int x :: rest))) E := by
  subst hq; exact own_back (fun _ k => XS.ixor X.here hx rfl hd rfl k) h
theorem own_ishl (X : Stand p l e R s' m args below meth c T locs cells slots) (hx : p.tables.exec = Jvm.exec) {pc q : Nat} {Ls : Array Slot} {rest : List Value} (hd : decode c.code pc = .ok (.ishl, 1)) {x y : Int32} (hq : pc + 1 = q) (h : own_End p e below s Q K N (T.setTop (mkF m q Ls (.int (x <<< (y &&& 31)) :: rest))) E) : own_End p e below s Q K N (T.setTop (mkF m pc Ls (.int y :: .int x :: rest))) E := by
  subst hq; exact own_back (fun _ k => XS.ishl X.here hx rfl hd rfl k) h
theorem own_ishr (X : Stand p l e R s' m args below meth c T locs cells slots) (hx : p.tables.exec = Jvm.exec) {pc q : Nat} {Ls : Array Slot} {rest : List Value} (hd : decode c.code pc = .ok (.ishr, 1)) {x y : Int32} (hq : pc + 1 = q) (h : own_End p e below s Q K N (T.setTop (mkF m q Ls (.int (x >>> (y &&& 31)) :: rest))) E) : own_End p e below s Q K N (T.setTop (mkF m pc Ls (.int y :: .int x :: rest))) E := by
  subst hq; exact own_back (fun _ k => XS.ishr X.here hx rfl hd rfl k) h
theorem own_iushr (X : Stand p l e R s' m args below meth c T locs cells slots) (hx : p.tables.exec = Jvm.exec) {pc q : Nat} {Ls : Array Slot} {rest : List Value} (hd : decode c.code pc = .ok (.iushr, 1)) {x y : Int32} (hq : pc + 1 = q) (h : own_End p e below s Q K N (T.setTop (mkF m q Ls (.int ((x.toUInt32 >>> (y &&& 31).toUInt32).toInt32) :: rest))) E) : own_End p e below s Q K N (T.setTop (mkF m pc Ls (.int y :: .int x :: rest))) E := by
  subst hq; exact own_back (fun _ k => XS.iushr X.here hx rfl hd rfl k) h
theorem own_ladd (X : Stand p l e R s' m args below meth c T locs cells slots) (hx : p.tables.exec = Jvm.exec) {pc q : Nat} {Ls : Array Slot} {rest : List Value} (hd : decode c.code pc = .ok (.ladd, 1)) {x y : Int64} (hq : pc + 1 = q) (h : own_End p e below s Q K N (T.setTop (mkF m q Ls (.long (x + y) :: rest))) E) : own_End p e below s Q K N (T.setTop (mkF m pc Ls (.long y :: .long x :: rest))) E := by
  subst hq; exact own_back (fun _ k => XS.ladd X.here hx rfl hd rfl k) h
theorem own_lsub (X : Stand p l e R s' m args below meth c T locs cells slots) (hx : p.tables.exec = Jvm.exec) {pc q : Nat} {Ls : Array Slot} {rest : List Value} (hd : decode c.code pc = .ok (.lsub, 1)) {x y : Int64} (hq : pc + 1 = q) (h : own_End p e below s Q K N (T.setTop (mkF m q Ls (.long (x - y) :: rest))) E) : own_End p e below s Q K N (T.setTop (mkF m pc Ls (.long y :: .long x :: rest))) E := by
  subst hq; exact own_back (fun _ k => XS.lsub X.here hx rfl hd rfl k) h
theorem own_lmul (X : Stand p l e R s' m args below meth c T locs cells slots) (hx : p.tables.exec = Jvm.exec) {pc q : Nat} {Ls : Array Slot} {rest : List Value} (hd : decode c.code pc = .ok (.lmul, 1)) {x y : Int64} (hq : pc + 1 = q) (h : own_End p e below s Q K N (T.setTop (mkF m q Ls (.long (x * y) :: rest))) E) : own_End p e below s Q K N (T.setTop (mkF m pc Ls (.long y :: .long x :: rest))) E := by
  subst hq; exact own_back (fun _ k => XS.lmul X.here hx rfl hd rfl k) h
theorem own_land (X : Stand p l e R s' m args below meth c T locs cells slots) (hx : p.tables.exec = Jvm.exec) {pc q : Nat} {Ls : Array Slot} {rest : List Value} (hd : decode c.code pc = .ok (.land, 1)) {x y : Int64} (hq : pc + 1 = q) (h : own_End p e below s Q K N (T.setTop (mkF m q Ls (.long (x &&& y) :: rest))) E) : own_End p e below s Q K N (T.setTop (mkF m pc Ls (.long y :: .long x :: rest))) E := by
  subst hq; exact own_back (fun _ k => XS.land X.here hx rfl hd rfl k) h
theorem own_lor (X : Stand p l e R s' m args below meth c T locs cells slots) (hx : p.tables.exec = Jvm.exec) {pc q : Nat} {Ls : Array Slot} {rest : List Value} (hd : decode c.code pc = .ok (.lor, 1)) {x y : Int64} (hq : pc + 1 = q) (h : own_End p e below s Q K N (T.setTop (mkF m q Ls (.long (x ||| y) :: rest))) E) : own_End p e below s Q K N (T.setTop (mkF m pc Ls (.long y :: .long x :: rest))) E := by
  subst hq; exact own_back (fun _ k => XS.lor X.here hx rfl hd rfl k) h
theorem own_lxor (X : Stand p l e R s' m args below meth c T locs cells slots) (hx : p.tables.exec = Jvm.exec) {pc q : Nat} {Ls : Array Slot} {rest : List Value} (hd : decode c.code pc = .ok (.lxor, 1)) {x y : Int64} (hq : pc + 1 = q) (h : own_End p e below s Q K N (T.setTop (mkF m q Ls (.long (x ^^^ y) :: rest))) E) : own_End p e below s Q K N (T.setTop (mkF m pc Ls (.long y :: .long x :: rest))) E := by
  subst hq; exact own_back (fun _ k => XS.lxor X.here hx rfl hd rfl k) h
theorem own_lshl (X : Stand p l e R s' m args below meth c T locs cells slots) (hx : p.tables.exec = Jvm.exec) {pc q : Nat} {Ls : Array Slot} {rest : List Value} (hd : decode c.code pc = .ok (.lshl, 1)) {x : Int64} {y : Int32} (hq : pc + 1 = q) (h : own_End p e below s Q K N (T.setTop (mkF m q Ls (.long (x <<< (y &&& 0x3f).toInt64) :: rest))) E) : own_End p e below s Q K N (T.setTop (mkF m pc Ls (.int y :: .long x :: rest))) E := by
  subst hq; exact own_back (fun _ k => XS.lshl X.here hx rfl hd rfl k) h
theorem own_lshr (X : Stand p l e R s' m args below meth c T locs cells slots) (hx : p.tables.exec = Jvm.exec) {pc q : Nat} {Ls : Array Slot} {rest : List Value} (hd : decode c.code pc = .ok (.lshr, 1)) {x : Int64} {y : Int32} (hq : pc + 1 = q) (h : own_End p e below s Q K N (T.setTop (mkF m q Ls (.long (x >>> (y &&& 0x3f).toInt64) :: rest))) E) : own_End p e below s Q K N (T.setTop (mkF m pc Ls (.int y :: .long x :: rest))) E := by
  subst hq; exact own_back (fun _ k => XS.lshr X.here hx rfl hd rfl k) h
theorem own_lushr (X : Stand p l e R s' m args below meth c T locs cells slots) (hx : p.tables.exec = Jvm.exec) {pc q : Nat} {Ls : Array Slot} {rest : List Value} (hd : decode c.code pc = .ok (.lushr, 1)) {x : Int64} {y : Int32} (hq : pc + 1 = q) (h : own_End p e below s Q K N (T.setTop (mkF m q Ls (.long ((x.toUInt64 >>> (y &&& 0x3f).toInt64.toUInt64).toInt64) :: rest))) E) : own_End p e below s Q K N (T.setTop (mkF m pc Ls (.int y :: .long x :: rest))) E := by
  subst hq; exact own_back (fun _ k => XS.lushr X.here hx rfl hd rfl k) h
theorem own_idiv (X : Stand p l e R s' m args below meth c T locs cells slots) (hx : p.tables.exec = Jvm.exec) {pc q : Nat} {Ls : Array Slot} {rest : List Value} (hd : decode c.code pc = .ok (.idiv, 1)) {x y : Int32} (hy : y ≠ 0) (hq : pc + 1 = q) (h : own_End p e below s Q K N (T.setTop (mkF m q Ls (.int (x / y) :: rest))) E) : own_End p e below s Q K N (T.setTop (mkF m pc Ls (.int y :: .int x :: rest))) E := by
  subst hq; exact own_back (fun _ k => XS.idiv X.here hx rfl hd rfl hy k) h
theorem own_irem (X : Stand p l e R s' m args below meth c T locs cells slots) (hx : p.tables.exec = Jvm.exec) {pc q : Nat} {Ls : Array Slot} {rest : List Value} (hd : decode c.code pc = .ok (.irem, 1)) {x y : Int32} (hy : y ≠ 0) (hq : pc + 1 = q) (h : own_End p e below s Q K N (T.setTop (mkF m q Ls (.int (x % y) :: rest))) E) : own_End p e below s Q K N (T.setTop (mkF m pc Ls (.int y :: .int x :: rest))) E := by
  subst hq; exact own_back (fun _ k => iremM X hx rfl hd rfl hy k) h
theorem own_ldiv (X : Stand p l e R s' m args below meth c T locs cells slots) (hx : p.tables.exec = Jvm.exec) {pc q : Nat} {Ls : Array Slot} {rest : List Value} (hd : decode c.code pc = .ok (.ldiv, 1)) {x y : Int64} (hy : y ≠ 0) (hq : pc + 1 = q) (h : own_End p e below s Q K N (T.setTop (mkF m q Ls (.long (x / y) :: rest))) E) : own_End p e below s Q K N (T.setTop (mkF m pc Ls (.long y :: .long x :: rest))) E := by
  subst hq; exact own_back (fun _ k => XS.ldiv X.here hx rfl hd rfl hy k) h
theorem own_lrem (X : Stand p l e R s' m args below meth c T locs cells slots) (hx : p.tables.exec = Jvm.exec) {pc q : Nat} {Ls : Array Slot} {rest : List Value} (hd : decode c.code pc = .ok (.lrem, 1)) {x y : Int64} (hy : y ≠ 0) (hq : pc + 1 = q) (h : own_End p e below s Q K N (T.setTop (mkF m q Ls (.long (x - (x / y) * y) :: rest))) E) : own_End p e below s Q K N (T.setTop (mkF m pc Ls (.long y :: .long x :: rest))) E := by
  subst hq; exact own_back (fun _ k => XS.lrem X.here hx rfl hd rfl hy k) h
theorem own_ineg (X : Stand p l e R s' m args below meth c T locs cells slots) (hx : p.tables.exec = Jvm.exec) {pc q : Nat} {Ls : Array Slot} {rest : List Value} (hd : decode c.code pc = .ok (.ineg, 1)) {x : Int32} (hq : pc + 1 = q) (h : own_End p e below s Q K N (T.setTop (mkF m q Ls (.int (-x) :: rest))) E) : own_End p e below s Q K N (T.setTop (mkF m pc Ls (.int x :: rest))) E := by
  subst hq; exact own_back (fun _ k => XS.ineg X.here hx rfl hd rfl k) h
theorem own_lneg (X : Stand p l e R s' m args below meth c T locs cells slots) (hx : p.tables.exec = Jvm.exec) {pc q : Nat} {Ls : Array Slot} {rest : List Value} (hd : decode c.code pc = .ok (.lneg, 1)) {x : Int64} (hq : pc + 1 = q) (h : own_End p e below s Q K N (T.setTop (mkF m q Ls (.long (-x) :: rest))) E) : own_End p e below s Q K N (T.setTop (mkF m pc Ls (.long x :: rest))) E := by
  subst hq; exact own_back (fun _ k => XS.lneg X.here hx rfl hd rfl k) h
theorem own_i2l (X : Stand p l e R s' m args below meth c T locs cells slots) (hx : p.tables.exec = Jvm.exec) {pc q : Nat} {Ls : Array Slot} {rest : List Value} (hd : decode c.code pc = .ok (.i2l, 1)) {x : Int32} (hq : pc + 1 = q) (h : own_End p e below s Q K N (T.setTop (mkF m q Ls (.long (x.toInt64) :: rest))) E) : own_End p e below s Q K N (T.setTop (mkF m pc Ls (.int x :: rest))) E := by
  subst hq; exact own_back (fun _ k => XS.i2l X.here hx rfl hd rfl k) h
theorem own_l2i (X : Stand p l e R s' m args below meth c T locs cells slots) (hx : p.tables.exec = Jvm.exec) {pc q : Nat} {Ls : Array Slot} {rest : List Value} (hd : decode c.code pc = .ok (.l2i, 1)) {x : Int64} (hq : pc + 1 = q) (h : own_End p e below s Q K N (T.setTop (mkF m q Ls (.int (x.toInt32) :: rest))) E) : own_End p e below s Q K N (T.setTop (mkF m pc Ls (.long x :: rest))) E := by
  subst hq; exact own_back (fun _ k => XS.l2i X.here hx rfl hd rfl k) h
theorem own_i2c (X : Stand p l e R s' m args below meth c T locs cells slots) (hx : p.tables.exec = Jvm.exec) {pc q : Nat} {Ls : Array Slot} {rest : List Value} (hd : decode c.code pc = .ok (.i2c, 1)) {x : Int32} (hq : pc + 1 = q) (h : own_End p e below s Q K N (T.setTop (mkF m q Ls (.int (x.toUInt32.toUInt16.toUInt32.toInt32) :: rest))) E) : own_End p e below s Q K N (T.setTop (mkF m pc Ls (.int x :: rest))) E := by
  subst hq; exact own_back (fun _ k => XS.i2c X.here hx rfl hd rfl k) h
theorem own_i2b (X : Stand p l e R s' m args below meth c T locs cells slots) (hx : p.tables.exec = Jvm.exec) {pc q : Nat} {Ls : Array Slot} {rest : List Value} (hd : decode c.code pc = .ok (.i2b, 1)) {x : Int32} (hq : pc + 1 = q) (h : own_End p e below s Q K N (T.setTop (mkF m q Ls (.int (x.toInt8.toInt32) :: rest))) E) : own_End p e below s Q K N (T.setTop (mkF m pc Ls (.int x :: rest))) E := by
  subst hq; exact own_back (fun _ k => XS.i2b X.here hx rfl hd rfl k) h
theorem own_i2s (X : Stand p l e R s' m args below meth c T locs cells slots) (hx : p.tables.exec = Jvm.exec) {pc q : Nat} {Ls : Array Slot} {rest : List Value} (hd : decode c.code pc = .ok (.i2s, 1)) {x : Int32} (hq : pc + 1 = q) (h : own_End p e below s Q K N (T.setTop (mkF m q Ls (.int (x.toInt16.toInt32) :: rest))) E) : own_End p e below s Q K N (T.setTop (mkF m pc Ls (.int x :: rest))) E := by
  subst hq; exact own_back (fun _ k => XS.i2s X.here hx rfl hd rfl k) h
theorem own_lcmp (X : Stand p l e R s' m args below meth c T locs cells slots) (hx : p.tables.exec = Jvm.exec) {pc q : Nat} {Ls : Array Slot} {rest : List Value} (hd : decode c.code pc = .ok (.lcmp, 1)) {x y : Int64} (hq : pc + 1 = q) (h : own_End p e below s Q K N (T.setTop (mkF m q Ls (.int (lcmpW x y) :: rest))) E) : own_End p e below s Q K N (T.setTop (mkF m pc Ls (.long y :: .long x :: rest))) E := by
  subst hq; exact own_back (fun _ k => XS.lcmp X.here hx rfl hd rfl k) h
theorem own_dup (X : Stand p l e R s' m args below meth c T locs cells slots) (hx : p.tables.exec = Jvm.exec) {pc q : Nat} {Ls : Array Slot} {rest : List Value} (hd : decode c.code pc = .ok (.dup, 1)) {v : Value} (hv : v.category = 1) (hq : pc + 1 = q) (h : own_End p e below s Q K N (T.setTop (mkF m q Ls (v :: v :: rest))) E) : own_End p e below s Q K N (T.setTop (mkF m pc Ls (v :: rest))) E := by
  subst hq; exact own_back (fun _ k => XS.dup X.here hx rfl hd rfl hv k) h
theorem own_dupx1 (X : Stand p l e R s' m args below meth c T locs cells slots) (hx : p.tables.exec = Jvm.exec) {pc q : Nat} {Ls : Array Slot} {rest : List Value} (hd : decode c.code pc = .ok (.dup_x1, 1)) {v w : Value} (hv : v.category = 1) (hw : w.category = 1) (hq : pc + 1 = q) (h : own_End p e below s Q K N (T.setTop (mkF m q Ls (v :: w :: v :: rest))) E) : own_End p e below s Q K N (T.setTop (mkF m pc Ls (v :: w :: rest))) E := by
  subst hq; exact own_back (fun _ k => XS.dupX1 X.here hx rfl hd rfl hv hw k) h
theorem own_pop (X : Stand p l e R s' m args below meth c T locs cells slots) (hx : p.tables.exec = Jvm.exec) {pc q : Nat} {Ls : Array Slot} {rest : List Value} (hd : decode c.code pc = .ok (.pop, 1)) {v : Value} (hv : v.category = 1) (hq : pc + 1 = q) (h : own_End p e below s Q K N (T.setTop (mkF m q Ls (rest))) E) : own_End p e below s Q K N (T.setTop (mkF m pc Ls (v :: rest))) E := by
  subst hq; exact own_back (fun _ k => XS.pop X.here hx rfl hd rfl hv k) h
theorem own_anull (X : Stand p l e R s' m args below meth c T locs cells slots) (hx : p.tables.exec = Jvm.exec) {pc q : Nat} {Ls : Array Slot} {rest : List Value} (hd : decode c.code pc = .ok (.aconst_null, 1))  (hq : pc + 1 = q) (h : own_End p e below s Q K N (T.setTop (mkF m q Ls (.null :: rest))) E) : own_End p e below s Q K N (T.setTop (mkF m pc Ls (rest))) E := by
  subst hq; exact own_back (fun _ k => XS.aconstNull X.here hx rfl hd k) h
theorem own_iload (X : Stand p l e R s' m args below meth c T locs cells slots) (hx : p.tables.exec = Jvm.exec) {pc q : Nat} {Ls : Array Slot} {rest : List Value} {k : Nat} {v : Int32} (hd : decode c.code pc = .ok (.iload k, 2)) (hl : Ls[k]? = some (.val (.int v))) (hq : pc + 2 = q) (h : own_End p e below s Q K N (T.setTop (mkF m q Ls (.int v :: rest))) E) : own_End p e below s Q K N (T.setTop (mkF m pc Ls (rest))) E := by
  subst hq; exact own_back (fun _ k => XS.iload X.here hx rfl hd hl k) h
theorem own_iloadN (X : Stand p l e R s' m args below meth c T locs cells slots) (hx : p.tables.exec = Jvm.exec) {pc q : Nat} {Ls : Array Slot} {rest : List Value} {k : Fin 4} {v : Int32} (hd : decode c.code pc = .ok (.iload_n k, 1)) (hl : Ls[k.val]? = some (.val (.int v))) (hq : pc + 1 = q) (h : own_End p e below s Q K N (T.setTop (mkF m q Ls (.int v :: rest))) E) : own_End p e below s Q K N (T.setTop (mkF m pc Ls (rest))) E := by
  subst hq; exact own_back (fun _ k => XS.iloadN X.here hx rfl hd hl k) h
theorem own_istore (X : Stand p l e R s' m args below meth c T locs cells slots) (hx : p.tables.exec = Jvm.exec) {pc q : Nat} {Ls : Array Slot} {rest : List Value} {k : Nat} {v : Int32} {l' : Array Slot} (hd : decode c.code pc = .ok (.istore k, 2)) (hl : storeLocals Ls k (.int v) = some l') (hq : pc + 2 = q) (h : own_End p e below s Q K N (T.setTop (mkF m q l' (rest))) E) : own_End p e below s Q K N (T.setTop (mkF m pc Ls (.int v :: rest))) E := by
  subst hq; exact own_back (fun _ k => XS.istore X.here hx rfl hd rfl hl k) h
theorem own_istoreN (X : Stand p l e R s' m args below meth c T locs cells slots) (hx : p.tables.exec = Jvm.exec) {pc q : Nat} {Ls : Array Slot} {rest : List Value} {k : Fin 4} {v : Int32} {l' : Array Slot} (hd : decode c.code pc = .ok (.istore_n k, 1)) (hl : storeLocals Ls k.val (.int v) = some l') (hq : pc + 1 = q) (h : own_End p e below s Q K N (T.setTop (mkF m q l' (rest))) E) : own_End p e below s Q K N (T.setTop (mkF m pc Ls (.int v :: rest))) E := by
  subst hq; exact own_back (fun _ k => XS.istoreN X.here hx rfl hd rfl hl k) h
theorem own_lload (X : Stand p l e R s' m args below meth c T locs cells slots) (hx : p.tables.exec = Jvm.exec) {pc q : Nat} {Ls : Array Slot} {rest : List Value} {k : Nat} {v : Int64} (hd : decode c.code pc = .ok (.lload k, 2)) (hl : Ls[k]? = some (.val (.long v))) (hq : pc + 2 = q) (h : own_End p e below s Q K N (T.setTop (mkF m q Ls (.long v :: rest))) E) : own_End p e below s Q K N (T.setTop (mkF m pc Ls (rest))) E := by
  subst hq; exact own_back (fun _ k => XS.lload X.here hx rfl hd hl k) h
theorem own_lloadN (X : Stand p l e R s' m args below meth c T locs cells slots) (hx : p.tables.exec = Jvm.exec) {pc q : Nat} {Ls : Array Slot} {rest : List Value} {k : Fin 4} {v : Int64} (hd : decode c.code pc = .ok (.lload_n k, 1)) (hl : Ls[k.val]? = some (.val (.long v))) (hq : pc + 1 = q) (h : own_End p e below s Q K N (T.setTop (mkF m q Ls (.long v :: rest))) E) : own_End p e below s Q K N (T.setTop (mkF m pc Ls (rest))) E := by
  subst hq; exact own_back (fun _ k => XS.lloadN X.here hx rfl hd hl k) h
theorem own_lstore (X : Stand p l e R s' m args below meth c T locs cells slots) (hx : p.tables.exec = Jvm.exec) {pc q : Nat} {Ls : Array Slot} {rest : List Value} {k : Nat} {v : Int64} {l' : Array Slot} (hd : decode c.code pc = .ok (.lstore k, 2)) (hl : storeLocals Ls k (.long v) = some l') (hq : pc + 2 = q) (h : own_End p e below s Q K N (T.setTop (mkF m q l' (rest))) E) : own_End p e below s Q K N (T.setTop (mkF m pc Ls (.long v :: rest))) E := by
  subst hq; exact own_back (fun _ k => XS.lstore X.here hx rfl hd rfl hl k) h
theorem own_lstoreN (X : Stand p l e R s' m args below meth c T locs cells slots) (hx : p.tables.exec = Jvm.exec) {pc q : Nat} {Ls : Array Slot} {rest : List Value} {k : Fin 4} {v : Int64} {l' : Array Slot} (hd : decode c.code pc = .ok (.lstore_n k, 1)) (hl : storeLocals Ls k.val (.long v) = some l') (hq : pc + 1 = q) (h : own_End p e below s Q K N (T.setTop (mkF m q l' (rest))) E) : own_End p e below s Q K N (T.setTop (mkF m pc Ls (.long v :: rest))) E := by
  subst hq; exact own_back (fun _ k => XS.lstoreN X.here hx rfl hd rfl hl k) h
theorem own_aload (X : Stand p l e R s' m args below meth c T locs cells slots) (hx : p.tables.exec = Jvm.exec) {pc q : Nat} {Ls : Array Slot} {rest : List Value} {k : Nat} {v : Value} (hd : decode c.code pc = .ok (.aload k, 2)) (hl : Ls[k]? = some (.val v)) (hv : v.isRef = true) (hq : pc + 2 = q) (h : own_End p e below s Q K N (T.setTop (mkF m q Ls (v :: rest))) E) : own_End p e below s Q K N (T.setTop (mkF m pc Ls (rest))) E := by
  subst hq; exact own_back (fun _ k => XS.aload X.here hx rfl hd hl hv k) h
theorem own_aloadN (X : Stand p l e R s' m args below meth c T locs cells slots) (hx : p.tables.exec = Jvm.exec) {pc q : Nat} {Ls : Array Slot} {rest : List Value} {k : Fin 4} {v : Value} (hd : decode c.code pc = .ok (.aload_n k, 1)) (hl : Ls[k.val]? = some (.val v)) (hv : v.isRef = true) (hq : pc + 1 = q) (h : own_End p e below s Q K N (T.setTop (mkF m q Ls (v :: rest))) E) : own_End p e below s Q K N (T.setTop (mkF m pc Ls (rest))) E := by
  subst hq; exact own_back (fun _ k => XS.aloadN X.here hx rfl hd hl hv k) h
theorem own_astore (X : Stand p l e R s' m args below meth c T locs cells slots) (hx : p.tables.exec = Jvm.exec) {pc q : Nat} {Ls : Array Slot} {rest : List Value} {k : Nat} {v : Value} {l' : Array Slot} (hd : decode c.code pc = .ok (.astore k, 2)) (hv : v.isRef = true) (hl : storeLocals Ls k v = some l') (hq : pc + 2 = q) (h : own_End p e below s Q K N (T.setTop (mkF m q l' (rest))) E) : own_End p e below s Q K N (T.setTop (mkF m pc Ls (v :: rest))) E := by
  subst hq; exact own_back (fun _ k => XS.astore X.here hx rfl hd rfl hv hl k) h
theorem own_astoreN (X : Stand p l e R s' m args below meth c T locs cells slots) (hx : p.tables.exec = Jvm.exec) {pc q : Nat} {Ls : Array Slot} {rest : List Value} {k : Fin 4} {v : Value} {l' : Array Slot} (hd : decode c.code pc = .ok (.astore_n k, 1)) (hv : v.isRef = true) (hl : storeLocals Ls k.val v = some l') (hq : pc + 1 = q) (h : own_End p e below s Q K N (T.setTop (mkF m q l' (rest))) E) : own_End p e below s Q K N (T.setTop (mkF m pc Ls (v :: rest))) E := by
  subst hq; exact own_back (fun _ k => XS.astoreN X.here hx rfl hd rfl hv hl k) h
theorem own_iinc (X : Stand p l e R s' m args below meth c T locs cells slots) (hx : p.tables.exec = Jvm.exec) {pc q : Nat} {Ls : Array Slot} {rest : List Value} {k : Nat} {cst : Int} {x z : Int32} {l' : Array Slot} (hd : decode c.code pc = .ok (.iinc k cst, 3)) (hl : Ls[k]? = some (.val (.int x))) (hz : Int32.ofInt cst = z) (hl' : storeLocals Ls k (.int (x + z)) = some l') (hq : pc + 3 = q) (h : own_End p e below s Q K N (T.setTop (mkF m q l' (rest))) E) : own_End p e below s Q K N (T.setTop (mkF m pc Ls (rest))) E := by
  subst hq hz; exact own_back (fun _ k => XS.iinc X.here hx rfl hd hl hl' k) h
theorem own_iconst (X : Stand p l e R s' m args below meth c T locs cells slots) (hx : p.tables.exec = Jvm.exec) {pc q : Nat} {Ls : Array Slot} {rest : List Value} {i : Int} {z : Int32} (hd : decode c.code pc = .ok (.iconst i, 1)) (hz : Int32.ofInt i = z) (hq : pc + 1 = q) (h : own_End p e below s Q K N (T.setTop (mkF m q Ls (.int z :: rest))) E) : own_End p e below s Q K N (T.setTop (mkF m pc Ls (rest))) E := by
  subst hq hz; exact own_back (fun _ k => XS.iconst X.here hx rfl hd k) h
theorem own_bipush (X : Stand p l e R s' m args below meth c T locs cells slots) (hx : p.tables.exec = Jvm.exec) {pc q : Nat} {Ls : Array Slot} {rest : List Value} {i : Int} {z : Int32} (hd : decode c.code pc = .ok (.bipush i, 2)) (hz : (Int8.ofInt i).toInt32 = z) (hq : pc + 2 = q) (h : own_End p e below s Q K N (T.setTop (mkF m q Ls (.int z :: rest))) E) : own_End p e below s Q K N (T.setTop (mkF m pc Ls (rest))) E := by
  subst hq hz; exact own_back (fun _ k => XS.bipush X.here hx rfl hd k) h
theorem own_sipush (X : Stand p l e R s' m args below meth c T locs cells slots) (hx : p.tables.exec = Jvm.exec) {pc q : Nat} {Ls : Array Slot} {rest : List Value} {i : Int} {z : Int32} (hd : decode c.code pc = .ok (.sipush i, 3)) (hz : (Int16.ofInt i).toInt32 = z) (hq : pc + 3 = q) (h : own_End p e below s Q K N (T.setTop (mkF m q Ls (.int z :: rest))) E) : own_End p e below s Q K N (T.setTop (mkF m pc Ls (rest))) E := by
  subst hq hz; exact own_back (fun _ k => XS.sipush X.here hx rfl hd k) h
theorem own_lconst (X : Stand p l e R s' m args below meth c T locs cells slots) (hx : p.tables.exec = Jvm.exec) {pc q : Nat} {Ls : Array Slot} {rest : List Value} {i : Fin 2} {z : Int64} (hd : decode c.code pc = .ok (.lconst i, 1)) (hz : Int64.ofNat i = z) (hq : pc + 1 = q) (h : own_End p e below s Q K N (T.setTop (mkF m q Ls (.long z :: rest))) E) : own_End p e below s Q K N (T.setTop (mkF m pc Ls (rest))) E := by
  subst hq hz; exact own_back (fun _ k => XS.lconst X.here hx rfl hd k) h
theorem own_goto (X : Stand p l e R s' m args below meth c T locs cells slots) (hx : p.tables.exec = Jvm.exec) {pc q : Nat} {Ls : Array Slot} {rest : List Value} {o : Int} (hd : decode c.code pc = .ok (.goto o, 3)) (ho : 0 ≤ (pc : Int) + o) (hp : ((pc : Int) + o).toNat = q) (h : own_End p e below s Q K N (T.setTop (mkF m q Ls (rest))) E) : own_End p e below s Q K N (T.setTop (mkF m pc Ls (rest))) E := by
  exact own_back (fun _ k => XS.goto X.here hx rfl (pc0 := pc) (pc' := q) rfl hd ho hp k) h
theorem own_ifY (X : Stand p l e R s' m args below meth c T locs cells slots) (hx : p.tables.exec = Jvm.exec) {pc q : Nat} {Ls : Array Slot} {rest : List Value} {cd : ClassFile.Cond} {x : Int32} {o : Int} (hd : decode c.code pc = .ok (.ifCond cd o, 3)) (hc : if_icmp.holds cd x 0 = true) (ho : 0 ≤ (pc : Int) + o) (hp : ((pc : Int) + o).toNat = q) (h : own_End p e below s Q K N (T.setTop (mkF m q Ls (rest))) E) : own_End p e below s Q K N (T.setTop (mkF m pc Ls (.int x :: rest))) E := by
  exact own_back (fun _ k => XS.ifYes X.here hx rfl (pc0 := pc) (pc' := q) rfl hd rfl ((if0 _ _).trans hc) ho hp k) h
theorem own_ifN (X : Stand p l e R s' m args below meth c T locs cells slots) (hx : p.tables.exec = Jvm.exec) {pc q : Nat} {Ls : Array Slot} {rest : List Value} {cd : ClassFile.Cond} {x : Int32} {o : Int} (hd : decode c.code pc = .ok (.ifCond cd o, 3)) (hc : if_icmp.holds cd x 0 = false) (hq : pc + 3 = q) (h : own_End p e below s Q K N (T.setTop (mkF m q Ls (rest))) E) : own_End p e below s Q K N (T.setTop (mkF m pc Ls (.int x :: rest))) E := by
  subst hq; exact own_back (fun _ k => XS.ifNo X.here hx rfl hd rfl ((if0 _ _).trans hc) k) h
theorem own_icY (X : Stand p l e R s' m args below meth c T locs cells slots) (hx : p.tables.exec = Jvm.exec) {pc q : Nat} {Ls : Array Slot} {rest : List Value} {cd : ClassFile.Cond} {x y : Int32} {o : Int} (hd : decode c.code pc = .ok (.if_icmp cd o, 3)) (hc : if_icmp.holds cd x y = true) (ho : 0 ≤ (pc : Int) + o) (hp : ((pc : Int) + o).toNat = q) (h : own_End p e below s Q K N (T.setTop (mkF m q Ls (rest))) E) : own_End p e below s Q K N (T.setTop (mkF m pc Ls (.int y :: .int x :: rest))) E := by
  exact own_back (fun _ k => XS.icmpYes X.here hx rfl (pc0 := pc) (pc' := q) rfl hd rfl hc ho hp k) h
theorem own_icN (X : Stand p l e R s' m args below meth c T locs cells slots) (hx : p.tables.exec = Jvm.exec) {pc q : Nat} {Ls : Array Slot} {rest : List Value} {cd : ClassFile.Cond} {x y : Int32} {o : Int} (hd : decode c.code pc = .ok (.if_icmp cd o, 3)) (hc : if_icmp.holds cd x y = false) (hq : pc + 3 = q) (h : own_End p e below s Q K N (T.setTop (mkF m q Ls (rest))) E) : own_End p e below s Q K N (T.setTop (mkF m pc Ls (.int y :: .int x :: rest))) E := by
  subst hq; exact own_back (fun _ k => XS.icmpNo X.here hx rfl hd rfl hc k) h
theorem own_lcY (X : Stand p l e R s' m args below meth c T locs cells slots) (hx : p.tables.exec = Jvm.exec) {pc r q : Nat} {Ls : Array Slot} {rest : List Value} {cd : ClassFile.Cond} {x y : Int64} {o : Int} (hd : decode c.code pc = .ok (.lcmp, 1)) (hr : pc + 1 = r) (hd' : decode c.code r = .ok (.ifCond cd o, 3)) (hc : if_icmp.holds cd (lcmpW x y) 0 = true) (ho : 0 ≤ (r : Int) + o) (hp : ((r : Int) + o).toNat = q) (h : own_End p e below s Q K N (T.setTop (mkF m q Ls (rest))) E) : own_End p e below s Q K N (T.setTop (mkF m pc Ls (.long y :: .long x :: rest))) E := own_lcmp X hx hd hr (own_ifY X hx hd' hc ho hp h)
theorem own_lcN (X : Stand p l e R s' m args below meth c T locs cells slots) (hx : p.tables.exec = Jvm.exec) {pc r q : Nat} {Ls : Array Slot} {rest : List Value} {cd : ClassFile.Cond} {x y : Int64} {o : Int} (hd : decode c.code pc = .ok (.lcmp, 1)) (hr : pc + 1 = r) (hd' : decode c.code r = .ok (.ifCond cd o, 3)) (hc : if_icmp.holds cd (lcmpW x y) 0 = false) (hq : r + 3 = q) (h : own_End p e below s Q K N (T.setTop (mkF m q Ls (rest))) E) : own_End p e below s Q K N (T.setTop (mkF m pc Ls (.long y :: .long x :: rest))) E := own_lcmp X hx hd hr (own_ifN X hx hd' hc hq h)
theorem own_tlt {x y : Int64} (h : x < y) : if_icmp.holds .lt (lcmpW x y) 0 = true ∧ if_icmp.holds .ge (lcmpW x y) 0 = false ∧ if_icmp.holds .gt (lcmpW y x) 0 = true ∧ if_icmp.holds .le (lcmpW y x) 0 = false :=
  ⟨(tlt ((lw_lt x y).mpr h)).1, (tlt ((lw_lt x y).mpr h)).2.1, (tlt ((lw_gt y x).mpr h)).2.2.1, (tlt ((lw_gt y x).mpr h)).2.2.2⟩
theorem own_flt {x y : Int64} (h : ¬ x < y) : if_icmp.holds .lt (lcmpW x y) 0 = false ∧ if_icmp.holds .ge (lcmpW x y) 0 = true ∧ if_icmp.holds .gt (lcmpW y x) 0 = false ∧ if_icmp.holds .le (lcmpW y x) 0 = true :=
  ⟨(flt (fun q => h ((lw_lt x y).mp q))).1, (flt (fun q => h ((lw_lt x y).mp q))).2.1, (flt (fun q => h ((lw_gt y x).mp q))).2.2.1, (flt (fun q => h ((lw_gt y x).mp q))).2.2.2⟩
theorem own_teq {x y : Int64} (h : x = y) : if_icmp.holds .eq (lcmpW x y) 0 = true ∧ if_icmp.holds .ne (lcmpW x y) 0 = false := teq ((lw_eq x y).mpr h)
theorem own_feq {x y : Int64} (h : ¬ x = y) : if_icmp.holds .eq (lcmpW x y) 0 = false ∧ if_icmp.holds .ne (lcmpW x y) 0 = true := feq (fun q => h ((lw_eq x y).mp q))
theorem own_retV (X : Stand p l e R s m args below meth c T locs cells slots) (hx : p.tables.exec = Jvm.exec) {pc : Nat} {Ls : Array Slot}  (hret : meth.sig.returnType = none) (hlk : meth.locks = false) (hc : cells ≤ K) (hs : slots ≤ N) (hd : decode c.code pc = .ok (.return_, 1)) (hQ : Q none T.heap locs) : own_End p e below s Q K N (T.setTop (mkF m pc Ls [])) := by
  obtain ⟨fs, hr, hrun, hended, hW, hsame⟩ := X.leave (v := none) (fun _ => rfl) hlk
  refine ⟨_, _, ?_, hrun, hended, _, _, rfl, hQ, ⟨_, rfl⟩, hW, hsame.mono hc hs⟩
  exact X.returnOut hx hret hd hr
theorem own_retI (X : Stand p l e R s m args below meth c T locs cells slots) (hx : p.tables.exec = Jvm.exec) {pc : Nat} {Ls : Array Slot} {rest : List Value} {z : Int32} (hret : meth.sig.returnType = some .int) (hlk : meth.locks = false) (hc : cells ≤ K) (hs : slots ≤ N) (hd : decode c.code pc = .ok (.ireturn, 1)) (hQ : Q (some (.int z)) T.heap locs) : own_End p e below s Q K N (T.setTop (mkF m pc Ls (.int z :: rest))) := by
  obtain ⟨fs, hr, hrun, hended, hW, hsame⟩ := X.leave (v := (some (.int z))) (fun h => by rw [hret] at h; cases h) hlk
  refine ⟨_, _, ?_, hrun, hended, _, _, rfl, hQ, ⟨_, rfl⟩, hW, hsame.mono hc hs⟩
  have hm' : T.vm.method? m = some meth := X.method'
  have hn : narrow .int (.int z) = .int z := rfl
  show Steps p.tables e below (T.setTop { method := m, pc := pc, locals := Ls, stack := _ :: rest, locked := none }) _
  jvm_step X.here [X.here.top, hx, hd, hm', hret, hn]
  first | (intro acts; rw [hr _ acts rfl rfl rfl]) | rw [hr _ _ rfl rfl rfl]
  exact Steps.refl _
theorem own_retJ (X : Stand p l e R s m args below meth c T locs cells slots) (hx : p.tables.exec = Jvm.exec) {pc : Nat} {Ls : Array Slot} {rest : List Value} {z : Int64} (hret : meth.sig.returnType = some .long) (hlk : meth.locks = false) (hc : cells ≤ K) (hs : slots ≤ N) (hd : decode c.code pc = .ok (.lreturn, 1)) (hQ : Q (some (.long z)) T.heap locs) : own_End p e below s Q K N (T.setTop (mkF m pc Ls (.long z :: rest))) := by
  obtain ⟨fs, hr, hrun, hended, hW, hsame⟩ := X.leave (v := (some (.long z))) (fun h => by rw [hret] at h; cases h) hlk
  refine ⟨_, _, ?_, hrun, hended, _, _, rfl, hQ, ⟨_, rfl⟩, hW, hsame.mono hc hs⟩
  have hm' : T.vm.method? m = some meth := X.method'
  have hn : narrow .long (.long z) = .long z := rfl
  show Steps p.tables e below (T.setTop { method := m, pc := pc, locals := Ls, stack := _ :: rest, locked := none }) _
  jvm_step X.here [X.here.top, hx, hd, hm', hret, hn]
  first | (intro acts; rw [hr _ acts rfl rfl rfl]) | rw [hr _ _ rfl rfl rfl]
  exact Steps.refl _
theorem own_retN (X : Stand p l e R s m args below meth c T locs cells slots) (hx : p.tables.exec = Jvm.exec) {pc : Nat} {Ls : Array Slot} {rest : List Value} {z : Int32} {t : FieldType} (ht : t = .boolean ∨ t = .byte ∨ t = .char ∨ t = .short) (hret : meth.sig.returnType = some t) (hlk : meth.locks = false) (hc : cells ≤ K) (hs : slots ≤ N) (hd : decode c.code pc = .ok (.ireturn, 1)) (hQ : Q (some (.int (nar t z))) T.heap locs) : own_End p e below s Q K N (T.setTop (mkF m pc Ls (.int z :: rest))) := by
  obtain ⟨fs, hr, hrun, hended, hW, hsame⟩ := X.leave (v := (some (.int (nar t z)))) (fun h => by rw [hret] at h; cases h) hlk
  refine ⟨_, _, ?_, hrun, hended, _, _, rfl, hQ, ⟨_, rfl⟩, hW, hsame.mono hc hs⟩
  exact retN X hx hret ht hd hr
theorem own_b (P : Prop) [Decidable P] : nar .boolean (if P then (1 : Int32) else 0) = if P then (1 : Int32) else 0 := by
  split <;> rfl
end Own
theorem own_d1_0 : decode method_2_code 0 = .ok (.iload_n 0, 1) := by decide +kernel
theorem own_d1_1 : decode method_2_code 1 = .ok (.iload_n 1, 1) := by decide +kernel
theorem own_d1_2 : decode method_2_code 2 = .ok (.iushr, 1) := by decide +kernel
theorem own_d1_3 : decode method_2_code 3 = .ok (.iconst 1, 1) := by decide +kernel
theorem own_d1_4 : decode method_2_code 4 = .ok (.iand, 1) := by decide +kernel
theorem own_d1_5 : decode method_2_code 5 = .ok (.ifCond .eq 7, 3) := by decide +kernel
theorem own_d1_12 : decode method_2_code 12 = .ok (.iconst 0, 1) := by decide +kernel
theorem own_d1_13 : decode method_2_code 13 = .ok (.ireturn, 1) := by decide +kernel
theorem own_d1_8 : decode method_2_code 8 = .ok (.iconst 1, 1) := by decide +kernel
theorem own_d1_9 : decode method_2_code 9 = .ok (.goto 4, 3) := by decide +kernel
def own_F1 (p0 : Int32) (p1 : Int32) : Int32 := (if (((p0.toUInt32 >>> (p1 &&& 31).toUInt32).toInt32) &&& (1 : Int32)) = (0 : Int32) then (0 : Int32) else (1 : Int32))
def own_Q1 (Z : State) (p0 : Int32) (p1 : Int32) (h0 : Heap) (n0 : Nat) (v : Option Value) (h : Heap) (L : List Loc) : Prop := v = some (.int (own_F1 p0 p1)) ∧ Fr n0 L ∧ h = h0
theorem own_pn_rm1 : plainName "com/example/arcwise/arcwise/adaptation/HistoryRevisedPinLaw" = true := by first | (simp [plainName, overriddenIn]; done) | decide +kernel
theorem own_ef_rm1 (m : MethodId) (p0 : Int32) (p1 : Int32) : entryFrame m #[(.int p0), (.int p1)] 2 = mkF m 0 #[.val (.int p0), .val (.int p1)] [] := by first | (simp [entryFrame, mkF, argsToLocals, Value.category]; done) | rfl
set_option maxRecDepth 65536 in
set_option maxHeartbeats 40000000 in
theorem own_rm1 (l : Launch) (Z : State) (a0 : Array Value) (hw : ∀ d ∈ tables_1, d.before a0 Z = true) (ws : List Jvm.Cond) (p0 : Int32) (p1 : Int32) (h0 : Heap) (n0 : Nat) (Z0 : n0 ≤ h0.size) :
    MetFree l (⟨"com/example/arcwise/arcwise/adaptation/HistoryRevisedPinLaw", "bit", "(II)Z"⟩ : MethodName) (head1 (Jvm.Cond.code (⟨"com/example/arcwise/arcwise/adaptation/HistoryRevisedPinLaw", "bit", "(II)Z"⟩ : MethodName) method_2_code 2 (some .boolean) :: ws) ({ frames := 0, cells := 0, slots := 0, locals := 0 } : Room)) (fun a U => a = #[(.int p0), (.int p1)] ∧ Z.Warmed39 U.vm ∧ U.heap = h0) (fun _ _ _ _ _ => True) (fun _ U o U' => ∃ v L, o = .returned v ∧ own_Q1 Z p0 p1 h0 n0 v U'.heap L ∧ FrameEnd U o U' L ({ frames := 0, cells := 0, slots := 0, locals := 0 } : Room).cells ({ frames := 0, cells := 0, slots := 0, locals := 0 } : Room).slots) := by
  refine MetFree.of_bodySF (plainFor_of_name own_pn_rm1) hisR ?_
  intro p e s m args below meth c s₁ Bd hml0 hP hK
  obtain ⟨rfl, hZ, hh⟩ := hP
  have hx := Bd.exec
  have hby := Bd.bytes
  have hml : c.maxLocals = 2 := hml0
  have hown : s.vm.findClass "com/example/arcwise/arcwise/adaptation/HistoryRevisedPinLaw" = some m.cls := findClass_of_methodNamed Bd.named
  have hnm := (name_of_methodNamed Bd.named Bd.method).1
  have X0 : Stand p l e ({ frames := 0, cells := 0, slots := 0, locals := 0 } : Room) s m #[(.int p0), (.int p1)] below meth c s₁ [] 0 0 := Stand.of_body Bd
  have e0 : s₁.heap = h0 := by rw [← hh, Bd.state]; rfl
  have N0 := Fr.nil n0
  show own_End p e below s (own_Q1 Z p0 p1 h0 n0) ({ frames := 0, cells := 0, slots := 0, locals := 0 } : Room).cells ({ frames := 0, cells := 0, slots := 0, locals := 0 } : Room).slots (s₁.setTop (entryFrame m #[(.int p0), (.int p1)] 2))
  rw [own_ef_rm1]
  refine own_iloadN X0 hx (hb hby own_d1_0) rfl (q := 1) rfl ?_
  refine own_iloadN X0 hx (hb hby own_d1_1) rfl (q := 2) rfl ?_
  refine own_iushr X0 hx (hb hby own_d1_2) (q := 3) rfl ?_
  refine own_iconst X0 hx (hb hby own_d1_3) (z := 1) rfl (q := 4) rfl ?_
  refine own_iand X0 hx (hb hby own_d1_4) (q := 5) rfl ?_
  by_cases hc5_1 : (((p0.toUInt32 >>> (p1 &&& 31).toUInt32).toInt32) &&& (1 : Int32)) = (0 : Int32)
  · refine own_ifY X0 hx (hb hby own_d1_5) (teq hc5_1).1 (q := 12) (by decide) (by decide) ?_
    refine own_iconst X0 hx (hb hby own_d1_12) (z := 0) rfl (q := 13) rfl ?_
    refine own_retN X0 hx (t := .boolean) (by simp) Bd.returns Bd.notSynchronized (by decide) (by decide) (hb hby own_d1_13) ?_
    show own_Q1 Z p0 p1 h0 n0 _ s₁.heap _
    exact ⟨(by rw [show own_F1 p0 p1 = _ from (by simp only [own_F1, if_pos hc5_1] : _ = (0 : Int32))]; rfl), N0, e0⟩
  · refine own_ifN X0 hx (hb hby own_d1_5) (feq hc5_1).1 (q := 8) rfl ?_
    refine own_iconst X0 hx (hb hby own_d1_8) (z := 1) rfl (q := 9) rfl ?_
    refine own_goto X0 hx (hb hby own_d1_9) (q := 13) (by decide) (by decide) ?_
    refine own_retN X0 hx (t := .boolean) (by simp) Bd.returns Bd.notSynchronized (by decide) (by decide) (hb hby own_d1_13) ?_
    show own_Q1 Z p0 p1 h0 n0 _ s₁.heap _
    exact ⟨(by rw [show own_F1 p0 p1 = _ from (by simp only [own_F1, if_neg hc5_1] : _ = (1 : Int32))]; rfl), N0, e0⟩
theorem own_d7_0 : decode method_3_code 0 = .ok (.iload_n 0, 1) := by decide +kernel
theorem own_d7_1 : decode method_3_code 1 = .ok (.ifCond .eq 5, 3) := by decide +kernel
theorem own_d7_6 : decode method_3_code 6 = .ok (.iload_n 1, 1) := by decide +kernel
theorem own_d7_7 : decode method_3_code 7 = .ok (.ifCond .eq 5, 3) := by decide +kernel
theorem own_d7_12 : decode method_3_code 12 = .ok (.ldc2_w 9, 3) := by decide +kernel
theorem own_d7_15 : decode method_3_code 15 = .ok (.lreturn, 1) := by decide +kernel
theorem own_d7_10 : decode method_3_code 10 = .ok (.lconst 1, 1) := by decide +kernel
theorem own_d7_11 : decode method_3_code 11 = .ok (.lreturn, 1) := by decide +kernel
theorem own_d7_4 : decode method_3_code 4 = .ok (.lconst 0, 1) := by decide +kernel
theorem own_d7_5 : decode method_3_code 5 = .ok (.lreturn, 1) := by decide +kernel
def own_F7 (p0 : Int32) (p1 : Int32) : Int64 := (if p0 = (0 : Int32) then (if p1 = (0 : Int32) then (9223372036854775807 : Int64) else (1 : Int64)) else (0 : Int64))
def own_Q7 (Z : State) (p0 : Int32) (p1 : Int32) (h0 : Heap) (n0 : Nat) (v : Option Value) (h : Heap) (L : List Loc) : Prop := v = some (.long (own_F7 p0 p1)) ∧ Fr n0 L ∧ h = h0
theorem own_pn_rm7 : plainName "com/example/arcwise/arcwise/adaptation/HistoryRevisedPinLaw" = true := by first | (simp [plainName, overriddenIn]; done) | decide +kernel
theorem own_ef_rm7 (m : MethodId) (p0 : Int32) (p1 : Int32) : entryFrame m #[(.int p0), (.int p1)] 2 = mkF m 0 #[.val (.int p0), .val (.int p1)] [] := by first | (simp [entryFrame, mkF, argsToLocals, Value.category]; done) | rfl
set_option maxRecDepth 65536 in
set_option maxHeartbeats 40000000 in
theorem own_rm7 (l : Launch) (Z : State) (a0 : Array Value) (hw : ∀ d ∈ tables_1, d.before a0 Z = true) (ws : List Jvm.Cond) (p0 : Int32) (p1 : Int32) (h0 : Heap) (n0 : Nat) (Z0 : n0 ≤ h0.size) :
    MetFree l (⟨"com/example/arcwise/arcwise/adaptation/HistoryRevisedPinLaw", "expect", "(ZZ)J"⟩ : MethodName) (head1 (Jvm.Cond.code (⟨"com/example/arcwise/arcwise/adaptation/HistoryRevisedPinLaw", "expect", "(ZZ)J"⟩ : MethodName) method_3_code 2 (some .long) :: ws) ({ frames := 0, cells := 0, slots := 0, locals := 0 } : Room)) (fun a U => a = #[(.int p0), (.int p1)] ∧ Z.Warmed39 U.vm ∧ U.heap = h0) (fun _ _ _ _ _ => True) (fun _ U o U' => ∃ v L, o = .returned v ∧ own_Q7 Z p0 p1 h0 n0 v U'.heap L ∧ FrameEnd U o U' L ({ frames := 0, cells := 0, slots := 0, locals := 0 } : Room).cells ({ frames := 0, cells := 0, slots := 0, locals := 0 } : Room).slots) := by
  refine MetFree.of_bodySF (plainFor_of_name own_pn_rm7) hisR ?_
  intro p e s m args below meth c s₁ Bd hml0 hP hK
  obtain ⟨rfl, hZ, hh⟩ := hP
  have hx := Bd.exec
  have hby := Bd.bytes
  have hml : c.maxLocals = 2 := hml0
  have hown : s.vm.findClass "com/example/arcwise/arcwise/adaptation/HistoryRevisedPinLaw" = some m.cls := findClass_of_methodNamed Bd.named
  have hnm := (name_of_methodNamed Bd.named Bd.method).1
  have X0 : Stand p l e ({ frames := 0, cells := 0, slots := 0, locals := 0 } : Room) s m #[(.int p0), (.int p1)] below meth c s₁ [] 0 0 := Stand.of_body Bd
  have e0 : s₁.heap = h0 := by rw [← hh, Bd.state]; rfl
  have N0 := Fr.nil n0
  show own_End p e below s (own_Q7 Z p0 p1 h0 n0) ({ frames := 0, cells := 0, slots := 0, locals := 0 } : Room).cells ({ frames := 0, cells := 0, slots := 0, locals := 0 } : Room).slots (s₁.setTop (entryFrame m #[(.int p0), (.int p1)] 2))
  rw [own_ef_rm7]
  refine own_iloadN X0 hx (hb hby own_d7_0) rfl (q := 1) rfl ?_
  by_cases hc1_4 : p0 = (0 : Int32)
  · refine own_ifY X0 hx (hb hby own_d7_1) (teq hc1_4).1 (q := 6) (by decide) (by decide) ?_
    refine own_iloadN X0 hx (hb hby own_d7_6) rfl (q := 7) rfl ?_
    by_cases hc7_5 : p1 = (0 : Int32)
    · refine own_ifY X0 hx (hb hby own_d7_7) (teq hc7_5).1 (q := 12) (by decide) (by decide) ?_
      refine own_back (X0.ldc2Long hx hown (mvT hZ (hw _ (List.mem_of_getElem? (i := 41) rfl))) (g := (mkF m 12 #[.val (.int p0), .val (.int p1)] [])) rfl (hb hby own_d7_12)) ?_
      show own_End p e below s _ _ _ (s₁.setTop (mkF m 15 #[.val (.int p0), .val (.int p1)] [(.long (9223372036854775807 : Int64))]))
      refine own_retJ X0 hx Bd.returns Bd.notSynchronized (by decide) (by decide) (hb hby own_d7_15) ?_
      show own_Q7 Z p0 p1 h0 n0 _ s₁.heap _
      exact ⟨(by simp only [own_F7, if_pos hc1_4, if_pos hc7_5]), N0, e0⟩
    · refine own_ifN X0 hx (hb hby own_d7_7) (feq hc7_5).1 (q := 10) rfl ?_
      refine own_lconst X0 hx (hb hby own_d7_10) (z := 1) rfl (q := 11) rfl ?_
      refine own_retJ X0 hx Bd.returns Bd.notSynchronized (by decide) (by decide) (hb hby own_d7_11) ?_
      show own_Q7 Z p0 p1 h0 n0 _ s₁.heap _
      exact ⟨(by simp only [own_F7, if_pos hc1_4, if_neg hc7_5]), N0, e0⟩
  · refine own_ifN X0 hx (hb hby own_d7_1) (feq hc1_4).1 (q := 4) rfl ?_
    refine own_lconst X0 hx (hb hby own_d7_4) (z := 0) rfl (q := 5) rfl ?_
    refine own_retJ X0 hx Bd.returns Bd.notSynchronized (by decide) (by decide) (hb hby own_d7_5) ?_
    show own_Q7 Z p0 p1 h0 n0 _ s₁.heap _
    exact ⟨(by simp only [own_F7, if_neg hc1_4]), N0, e0⟩
theorem own_d4_0 : decode jdk_65_method_101_code 0 = .ok (.iconst 0, 1) := by decide +kernel
theorem own_d4_1 : decode jdk_65_method_101_code 1 = .ok (.istore_n 3, 1) := by decide +kernel
theorem own_d4_2 : decode jdk_65_method_101_code 2 = .ok (.aload_n 0, 1) := by decide +kernel
theorem own_d4_3 : decode jdk_65_method_101_code 3 = .ok (.arraylength, 1) := by decide +kernel
theorem own_d4_4 : decode jdk_65_method_101_code 4 = .ok (.istore 4, 2) := by decide +kernel
theorem own_d4_6 : decode jdk_65_method_101_code 6 = .ok (.iload_n 3, 1) := by decide +kernel
theorem own_d4_7 : decode jdk_65_method_101_code 7 = .ok (.iload 4, 2) := by decide +kernel
theorem own_d4_9 : decode jdk_65_method_101_code 9 = .ok (.if_icmp .ge 13, 3) := by decide +kernel
theorem own_d4_12 : decode jdk_65_method_101_code 12 = .ok (.aload_n 0, 1) := by decide +kernel
theorem own_d4_13 : decode jdk_65_method_101_code 13 = .ok (.iload_n 3, 1) := by decide +kernel
theorem own_d4_14 : decode jdk_65_method_101_code 14 = .ok (.lload_n 1, 1) := by decide +kernel
theorem own_d4_15 : decode jdk_65_method_101_code 15 = .ok (.lastore, 1) := by decide +kernel
theorem own_d4_16 : decode jdk_65_method_101_code 16 = .ok (.iinc 3 1, 3) := by decide +kernel
theorem own_d4_19 : decode jdk_65_method_101_code 19 = .ok (.goto (-13), 3) := by decide +kernel
theorem own_d4_22 : decode jdk_65_method_101_code 22 = .ok (.return_, 1) := by decide +kernel
def own_Q4 (Z : State) (o0 : Addr) (q1 : Int64) (k_o0 : ClassId) (w_o0_0 : Int64) (w_o0_1 : Int64) (h0 : Heap) (n0 : Nat) (v : Option Value) (h : Heap) (L : List Loc) : Prop := v = none ∧ Fr n0 L ∧ Keep h0 h [o0] ∧ Arv Z h o0 k_o0 .long (2 : Int32) [(.long q1), (.long q1)] (.long (0 : Int64))
theorem own_pn_rm4 : plainName "java/util/Arrays" = true := by first | (simp [plainName, overriddenIn]; done) | decide +kernel
theorem own_ef_rm4 (m : MethodId) (o0 : Addr) (q1 : Int64) : entryFrame m #[(.ref o0), (.long q1)] 5 = mkF m 0 #[.val (.ref o0), .val (.long q1), .second, .unset, .unset] [] := by first | (simp [entryFrame, mkF, argsToLocals, Value.category]; done) | rfl
set_option maxRecDepth 65536 in
set_option maxHeartbeats 40000000 in
theorem own_rm4 (l : Launch) (Z : State) (a0 : Array Value) (hw : ∀ d ∈ tables_1, d.before a0 Z = true) (ws : List Jvm.Cond) (o0 : Addr) (q1 : Int64) (k_o0 : ClassId) (w_o0_0 : Int64) (w_o0_1 : Int64) (h0 : Heap) (n0 : Nat) (Z0 : n0 ≤ h0.size) (V_o0 : Arv Z h0 o0 k_o0 .long (2 : Int32) [(.long w_o0_0), (.long w_o0_1)] (.long (0 : Int64))) (g_o0 : n0 ≤ o0) :
    MetFree l (⟨"java/util/Arrays", "fill", "([JJ)V"⟩ : MethodName) (head1 (Jvm.Cond.code (⟨"java/util/Arrays", "fill", "([JJ)V"⟩ : MethodName) jdk_65_method_101_code 5 none :: ws) ({ frames := 0, cells := 0, slots := 0, locals := 0 } : Room)) (fun a U => a = #[(.ref o0), (.long q1)] ∧ Z.Warmed39 U.vm ∧ U.heap = h0) (fun _ _ _ _ _ => True) (fun _ U o U' => ∃ v L, o = .returned v ∧ own_Q4 Z o0 q1 k_o0 w_o0_0 w_o0_1 h0 n0 v U'.heap L ∧ FrameEnd U o U' L ({ frames := 0, cells := 0, slots := 0, locals := 0 } : Room).cells ({ frames := 0, cells := 0, slots := 0, locals := 0 } : Room).slots) := by
  refine MetFree.of_bodySF (plainFor_of_name own_pn_rm4) hisR ?_
  intro p e s m args below meth c s₁ Bd hml0 hP hK
  obtain ⟨rfl, hZ, hh⟩ := hP
  have hx := Bd.exec
  have hby := Bd.bytes
  have hml : c.maxLocals = 5 := hml0
  have hown : s.vm.findClass "java/util/Arrays" = some m.cls := findClass_of_methodNamed Bd.named
  have hnm := (name_of_methodNamed Bd.named Bd.method).1
  have X0 : Stand p l e ({ frames := 0, cells := 0, slots := 0, locals := 0 } : Room) s m #[(.ref o0), (.long q1)] below meth c s₁ [] 0 0 := Stand.of_body Bd
  have e0 : s₁.heap = h0 := by rw [← hh, Bd.state]; rfl
  have N0 := Fr.nil n0
  show own_End p e below s (own_Q4 Z o0 q1 k_o0 w_o0_0 w_o0_1 h0 n0) ({ frames := 0, cells := 0, slots := 0, locals := 0 } : Room).cells ({ frames := 0, cells := 0, slots := 0, locals := 0 } : Room).slots (s₁.setTop (entryFrame m #[(.ref o0), (.long q1)] 5))
  rw [own_ef_rm4]
  refine own_iconst X0 hx (hb hby own_d4_0) (z := 0) rfl (q := 1) rfl ?_
  refine own_istoreN X0 hx (hb hby own_d4_1) (l' := #[.val (.ref o0), .val (.long q1), .second, .val (.int (0 : Int32)), .unset]) rfl (q := 2) rfl ?_
  refine own_aloadN X0 hx (hb hby own_d4_2) rfl rfl (q := 3) rfl ?_
  obtain ⟨cl9, Ar9, q9, S9, N9v, H9, G9⟩ := id V_o0
  refine own_back (X0.arraylength hx (by rw [e0]; exact Ar9.1) (State.isArrayOf_alike hZ.alike Ar9.2.1) (g := (mkF m 3 #[.val (.ref o0), .val (.long q1), .second, .val (.int (0 : Int32)), .unset] [(.ref o0)])) rfl rfl (hb hby own_d4_3)) ?_
  rw [len_of S9 N9v]
  show own_End p e below s _ _ _ (s₁.setTop (mkF m 4 #[.val (.ref o0), .val (.long q1), .second, .val (.int (0 : Int32)), .unset] [(.int (2 : Int32))]))
  refine own_istore X0 hx (hb hby own_d4_4) (l' := #[.val (.ref o0), .val (.long q1), .second, .val (.int (0 : Int32)), .val (.int (2 : Int32))]) rfl (q := 6) rfl ?_
  refine own_iloadN X0 hx (hb hby own_d4_6) rfl (q := 7) rfl ?_
  refine own_iload X0 hx (hb hby own_d4_7) rfl (q := 9) rfl ?_
  refine own_icN X0 hx (hb hby own_d4_9) (tlt (by decide : ((0 : Int32) < (2 : Int32)))).2.1 (q := 12) rfl ?_
  refine own_aloadN X0 hx (hb hby own_d4_12) rfl rfl (q := 13) rfl ?_
  refine own_iloadN X0 hx (hb hby own_d4_13) rfl (q := 14) rfl ?_
  refine own_lloadN X0 hx (hb hby own_d4_14) rfl (q := 15) rfl ?_
  obtain ⟨cl10, Ar10, q10, S10, N10v, H10, G10⟩ := id V_o0
  have hin10 : ¬ ((0 : Int32) < 0 ∨ cl10.slots.size ≤ ((0 : Int32)).toNatClampNeg) := inb_of S10 ⟨by decide, by decide⟩
  obtain ⟨T10, h10, X10, e10, W10, st10⟩ := stJ X0 hx hZ e0 Ar10 (j := (0 : Int32)) hin10 (g := (mkF m 15 #[.val (.ref o0), .val (.long q1), .second, .val (.int (0 : Int32)), .val (.int (2 : Int32))] [(.long q1), (.int (0 : Int32)), (.ref o0)])) rfl rfl (hb hby own_d4_15)
  have V_o0_10 : Arv Z h10 o0 k_o0 .long (2 : Int32) [(.long q1), (.long w_o0_1)] (.long (0 : Int64)) := Arv.set Ar10 q10 S10 N10v H10 G10 rfl W10 0 rfl (Nat.le_of_ble_eq_true rfl)
  have Kp11 : Keep h0 _ [o0] := (Keep.refl h0 [o0]).wr W10 (Or.inl (List.mem_of_getElem? (i := 0) rfl))
  have Z12 := Nat.le_trans Z0 (Keep.of_wr W10).1
  obtain ⟨L10, X10, N10⟩ := own_gl X10 (Fr.snoc X10 N0 g_o0)
  refine own_back st10 ?_
  show own_End p e below s _ _ _ (T10.setTop (mkF m 16 #[.val (.ref o0), .val (.long q1), .second, .val (.int (0 : Int32)), .val (.int (2 : Int32))] []))
  refine own_iinc X10 hx (hb hby own_d4_16) rfl (z := 1) rfl (l' := #[.val (.ref o0), .val (.long q1), .second, .val (.int (1 : Int32)), .val (.int (2 : Int32))]) rfl (q := 19) rfl ?_
  refine own_goto X10 hx (hb hby own_d4_19) (q := 6) (by decide) (by decide) ?_
  refine own_iloadN X10 hx (hb hby own_d4_6) rfl (q := 7) rfl ?_
  refine own_iload X10 hx (hb hby own_d4_7) rfl (q := 9) rfl ?_
  refine own_icN X10 hx (hb hby own_d4_9) (tlt (by decide : ((1 : Int32) < (2 : Int32)))).2.1 (q := 12) rfl ?_
  refine own_aloadN X10 hx (hb hby own_d4_12) rfl rfl (q := 13) rfl ?_
  refine own_iloadN X10 hx (hb hby own_d4_13) rfl (q := 14) rfl ?_
  refine own_lloadN X10 hx (hb hby own_d4_14) rfl (q := 15) rfl ?_
  obtain ⟨cl13, Ar13, q13, S13, N13v, H13, G13⟩ := id V_o0_10
  have hin13 : ¬ ((1 : Int32) < 0 ∨ cl13.slots.size ≤ ((1 : Int32)).toNatClampNeg) := inb_of S13 ⟨by decide, by decide⟩
  obtain ⟨T13, h13, X13, e13, W13, st13⟩ := stJ X10 hx hZ e10 Ar13 (j := (1 : Int32)) hin13 (g := (mkF m 15 #[.val (.ref o0), .val (.long q1), .second, .val (.int (1 : Int32)), .val (.int (2 : Int32))] [(.long q1), (.int (1 : Int32)), (.ref o0)])) rfl rfl (hb hby own_d4_15)
  have V_o0_13 : Arv Z h13 o0 k_o0 .long (2 : Int32) [(.long q1), (.long q1)] (.long (0 : Int64)) := Arv.set Ar13 q13 S13 N13v H13 G13 rfl W13 1 rfl (Nat.le_of_ble_eq_true rfl)
  have Kp14 : Keep h0 _ [o0] := Kp11.wr W13 (Or.inl (List.mem_of_getElem? (i := 0) rfl))
  have Z15 := Nat.le_trans Z12 (Keep.of_wr W13).1
  obtain ⟨L13, X13, N13⟩ := own_gl X13 (Fr.snoc X13 N10 g_o0)
  refine own_back st13 ?_
  show own_End p e below s _ _ _ (T13.setTop (mkF m 16 #[.val (.ref o0), .val (.long q1), .second, .val (.int (1 : Int32)), .val (.int (2 : Int32))] []))
  refine own_iinc X13 hx (hb hby own_d4_16) rfl (z := 1) rfl (l' := #[.val (.ref o0), .val (.long q1), .second, .val (.int (2 : Int32)), .val (.int (2 : Int32))]) rfl (q := 19) rfl ?_
  refine own_goto X13 hx (hb hby own_d4_19) (q := 6) (by decide) (by decide) ?_
  refine own_iloadN X13 hx (hb hby own_d4_6) rfl (q := 7) rfl ?_
  refine own_iload X13 hx (hb hby own_d4_7) rfl (q := 9) rfl ?_
  refine own_icY X13 hx (hb hby own_d4_9) (flt (by decide : ¬ ((2 : Int32) < (2 : Int32)))).2.1 (q := 22) (by decide) (by decide) ?_
  refine own_retV X13 hx Bd.returns Bd.notSynchronized (by decide) (by decide) (hb hby own_d4_22) ?_
  show own_Q4 Z o0 q1 k_o0 w_o0_0 w_o0_1 h0 n0 _ T13.heap _
  rw [e13]
  exact ⟨rfl, N13, Kp14, V_o0_13⟩
theorem own_d5_0 : decode jdk_65_method_103_code 0 = .ok (.iconst 0, 1) := by decide +kernel
theorem own_d5_1 : decode jdk_65_method_103_code 1 = .ok (.istore_n 2, 1) := by decide +kernel
theorem own_d5_2 : decode jdk_65_method_103_code 2 = .ok (.aload_n 0, 1) := by decide +kernel
theorem own_d5_3 : decode jdk_65_method_103_code 3 = .ok (.arraylength, 1) := by decide +kernel
theorem own_d5_4 : decode jdk_65_method_103_code 4 = .ok (.istore_n 3, 1) := by decide +kernel
theorem own_d5_5 : decode jdk_65_method_103_code 5 = .ok (.iload_n 2, 1) := by decide +kernel
theorem own_d5_6 : decode jdk_65_method_103_code 6 = .ok (.iload_n 3, 1) := by decide +kernel
theorem own_d5_7 : decode jdk_65_method_103_code 7 = .ok (.if_icmp .ge 13, 3) := by decide +kernel
theorem own_d5_10 : decode jdk_65_method_103_code 10 = .ok (.aload_n 0, 1) := by decide +kernel
theorem own_d5_11 : decode jdk_65_method_103_code 11 = .ok (.iload_n 2, 1) := by decide +kernel
theorem own_d5_12 : decode jdk_65_method_103_code 12 = .ok (.iload_n 1, 1) := by decide +kernel
theorem own_d5_13 : decode jdk_65_method_103_code 13 = .ok (.iastore, 1) := by decide +kernel
theorem own_d5_14 : decode jdk_65_method_103_code 14 = .ok (.iinc 2 1, 3) := by decide +kernel
theorem own_d5_17 : decode jdk_65_method_103_code 17 = .ok (.goto (-12), 3) := by decide +kernel
theorem own_d5_20 : decode jdk_65_method_103_code 20 = .ok (.return_, 1) := by decide +kernel
def own_Q5 (Z : State) (o0 : Addr) (p1 : Int32) (k_o0 : ClassId) (w_o0_0 : Int32) (w_o0_1 : Int32) (h0 : Heap) (n0 : Nat) (v : Option Value) (h : Heap) (L : List Loc) : Prop := v = none ∧ Fr n0 L ∧ Keep h0 h [o0] ∧ Arv Z h o0 k_o0 .int (2 : Int32) [(.int p1), (.int p1)] (.int (0 : Int32))
theorem own_pn_rm5 : plainName "java/util/Arrays" = true := by first | (simp [plainName, overriddenIn]; done) | decide +kernel
theorem own_ef_rm5 (m : MethodId) (o0 : Addr) (p1 : Int32) : entryFrame m #[(.ref o0), (.int p1)] 4 = mkF m 0 #[.val (.ref o0), .val (.int p1), .unset, .unset] [] := by first | (simp [entryFrame, mkF, argsToLocals, Value.category]; done) | rfl
set_option maxRecDepth 65536 in
set_option maxHeartbeats 40000000 in
theorem own_rm5 (l : Launch) (Z : State) (a0 : Array Value) (hw : ∀ d ∈ tables_1, d.before a0 Z = true) (ws : List Jvm.Cond) (o0 : Addr) (p1 : Int32) (k_o0 : ClassId) (w_o0_0 : Int32) (w_o0_1 : Int32) (h0 : Heap) (n0 : Nat) (Z0 : n0 ≤ h0.size) (V_o0 : Arv Z h0 o0 k_o0 .int (2 : Int32) [(.int w_o0_0), (.int w_o0_1)] (.int (0 : Int32))) (g_o0 : n0 ≤ o0) :
    MetFree l (⟨"java/util/Arrays", "fill", "([II)V"⟩ : MethodName) (head1 (Jvm.Cond.code (⟨"java/util/Arrays", "fill", "([II)V"⟩ : MethodName) jdk_65_method_103_code 4 none :: ws) ({ frames := 0, cells := 0, slots := 0, locals := 0 } : Room)) (fun a U => a = #[(.ref o0), (.int p1)] ∧ Z.Warmed39 U.vm ∧ U.heap = h0) (fun _ _ _ _ _ => True) (fun _ U o U' => ∃ v L, o = .returned v ∧ own_Q5 Z o0 p1 k_o0 w_o0_0 w_o0_1 h0 n0 v U'.heap L ∧ FrameEnd U o U' L ({ frames := 0, cells := 0, slots := 0, locals := 0 } : Room).cells ({ frames := 0, cells := 0, slots := 0, locals := 0 } : Room).slots) := by
  refine MetFree.of_bodySF (plainFor_of_name own_pn_rm5) hisR ?_
  intro p e s m args below meth c s₁ Bd hml0 hP hK
  obtain ⟨rfl, hZ, hh⟩ := hP
  have hx := Bd.exec
  have hby := Bd.bytes
  have hml : c.maxLocals = 4 := hml0
  have hown : s.vm.findClass "java/util/Arrays" = some m.cls := findClass_of_methodNamed Bd.named
  have hnm := (name_of_methodNamed Bd.named Bd.method).1
  have X0 : Stand p l e ({ frames := 0, cells := 0, slots := 0, locals := 0 } : Room) s m #[(.ref o0), (.int p1)] below meth c s₁ [] 0 0 := Stand.of_body Bd
  have e0 : s₁.heap = h0 := by rw [← hh, Bd.state]; rfl
  have N0 := Fr.nil n0
  show own_End p e below s (own_Q5 Z o0 p1 k_o0 w_o0_0 w_o0_1 h0 n0) ({ frames := 0, cells := 0, slots := 0, locals := 0 } : Room).cells ({ frames := 0, cells := 0, slots := 0, locals := 0 } : Room).slots (s₁.setTop (entryFrame m #[(.ref o0), (.int p1)] 4))
  rw [own_ef_rm5]
  refine own_iconst X0 hx (hb hby own_d5_0) (z := 0) rfl (q := 1) rfl ?_
  refine own_istoreN X0 hx (hb hby own_d5_1) (l' := #[.val (.ref o0), .val (.int p1), .val (.int (0 : Int32)), .unset]) rfl (q := 2) rfl ?_
  refine own_aloadN X0 hx (hb hby own_d5_2) rfl rfl (q := 3) rfl ?_
  obtain ⟨cl17, Ar17, q17, S17, N17v, H17, G17⟩ := id V_o0
  refine own_back (X0.arraylength hx (by rw [e0]; exact Ar17.1) (State.isArrayOf_alike hZ.alike Ar17.2.1) (g := (mkF m 3 #[.val (.ref o0), .val (.int p1), .val (.int (0 : Int32)), .unset] [(.ref o0)])) rfl rfl (hb hby own_d5_3)) ?_
  rw [len_of S17 N17v]
  show own_End p e below s _ _ _ (s₁.setTop (mkF m 4 #[.val (.ref o0), .val (.int p1), .val (.int (0 : Int32)), .unset] [(.int (2 : Int32))]))
  refine own_istoreN X0 hx (hb hby own_d5_4) (l' := #[.val (.ref o0), .val (.int p1), .val (.int (0 : Int32)), .val (.int (2 : Int32))]) rfl (q := 5) rfl ?_
  refine own_iloadN X0 hx (hb hby own_d5_5) rfl (q := 6) rfl ?_
  refine own_iloadN X0 hx (hb hby own_d5_6) rfl (q := 7) rfl ?_
  refine own_icN X0 hx (hb hby own_d5_7) (tlt (by decide : ((0 : Int32) < (2 : Int32)))).2.1 (q := 10) rfl ?_
  refine own_aloadN X0 hx (hb hby own_d5_10) rfl rfl (q := 11) rfl ?_
  refine own_iloadN X0 hx (hb hby own_d5_11) rfl (q := 12) rfl ?_
  refine own_iloadN X0 hx (hb hby own_d5_12) rfl (q := 13) rfl ?_
  obtain ⟨cl18, Ar18, q18, S18, N18v, H18, G18⟩ := id V_o0
  have hin18 : ¬ ((0 : Int32) < 0 ∨ cl18.slots.size ≤ ((0 : Int32)).toNatClampNeg) := inb_of S18 ⟨by decide, by decide⟩
  obtain ⟨T18, h18, X18, e18, W18, st18⟩ := stI X0 hx hZ e0 Ar18 (j := (0 : Int32)) hin18 (g := (mkF m 13 #[.val (.ref o0), .val (.int p1), .val (.int (0 : Int32)), .val (.int (2 : Int32))] [(.int p1), (.int (0 : Int32)), (.ref o0)])) rfl rfl (hb hby own_d5_13)
  have V_o0_18 : Arv Z h18 o0 k_o0 .int (2 : Int32) [(.int p1), (.int w_o0_1)] (.int (0 : Int32)) := Arv.set Ar18 q18 S18 N18v H18 G18 rfl W18 0 rfl (Nat.le_of_ble_eq_true rfl)
  have Kp19 : Keep h0 _ [o0] := (Keep.refl h0 [o0]).wr W18 (Or.inl (List.mem_of_getElem? (i := 0) rfl))
  have Z20 := Nat.le_trans Z0 (Keep.of_wr W18).1
  obtain ⟨L18, X18, N18⟩ := own_gl X18 (Fr.snoc X18 N0 g_o0)
  refine own_back st18 ?_
  show own_End p e below s _ _ _ (T18.setTop (mkF m 14 #[.val (.ref o0), .val (.int p1), .val (.int (0 : Int32)), .val (.int (2 : Int32))] []))
  refine own_iinc X18 hx (hb hby own_d5_14) rfl (z := 1) rfl (l' := #[.val (.ref o0), .val (.int p1), .val (.int (1 : Int32)), .val (.int (2 : Int32))]) rfl (q := 17) rfl ?_
  refine own_goto X18 hx (hb hby own_d5_17) (q := 5) (by decide) (by decide) ?_
  refine own_iloadN X18 hx (hb hby own_d5_5) rfl (q := 6) rfl ?_
  refine own_iloadN X18 hx (hb hby own_d5_6) rfl (q := 7) rfl ?_
  refine own_icN X18 hx (hb hby own_d5_7) (tlt (by decide : ((1 : Int32) < (2 : Int32)))).2.1 (q := 10) rfl ?_
  refine own_aloadN X18 hx (hb hby own_d5_10) rfl rfl (q := 11) rfl ?_
  refine own_iloadN X18 hx (hb hby own_d5_11) rfl (q := 12) rfl ?_
  refine own_iloadN X18 hx (hb hby own_d5_12) rfl (q := 13) rfl ?_
  obtain ⟨cl21, Ar21, q21, S21, N21v, H21, G21⟩ := id V_o0_18
  have hin21 : ¬ ((1 : Int32) < 0 ∨ cl21.slots.size ≤ ((1 : Int32)).toNatClampNeg) := inb_of S21 ⟨by decide, by decide⟩
  obtain ⟨T21, h21, X21, e21, W21, st21⟩ := stI X18 hx hZ e18 Ar21 (j := (1 : Int32)) hin21 (g := (mkF m 13 #[.val (.ref o0), .val (.int p1), .val (.int (1 : Int32)), .val (.int (2 : Int32))] [(.int p1), (.int (1 : Int32)), (.ref o0)])) rfl rfl (hb hby own_d5_13)
  have V_o0_21 : Arv Z h21 o0 k_o0 .int (2 : Int32) [(.int p1), (.int p1)] (.int (0 : Int32)) := Arv.set Ar21 q21 S21 N21v H21 G21 rfl W21 1 rfl (Nat.le_of_ble_eq_true rfl)
  have Kp22 : Keep h0 _ [o0] := Kp19.wr W21 (Or.inl (List.mem_of_getElem? (i := 0) rfl))
  have Z23 := Nat.le_trans Z20 (Keep.of_wr W21).1
  obtain ⟨L21, X21, N21⟩ := own_gl X21 (Fr.snoc X21 N18 g_o0)
  refine own_back st21 ?_
  show own_End p e below s _ _ _ (T21.setTop (mkF m 14 #[.val (.ref o0), .val (.int p1), .val (.int (1 : Int32)), .val (.int (2 : Int32))] []))
  refine own_iinc X21 hx (hb hby own_d5_14) rfl (z := 1) rfl (l' := #[.val (.ref o0), .val (.int p1), .val (.int (2 : Int32)), .val (.int (2 : Int32))]) rfl (q := 17) rfl ?_
  refine own_goto X21 hx (hb hby own_d5_17) (q := 5) (by decide) (by decide) ?_
  refine own_iloadN X21 hx (hb hby own_d5_5) rfl (q := 6) rfl ?_
  refine own_iloadN X21 hx (hb hby own_d5_6) rfl (q := 7) rfl ?_
  refine own_icY X21 hx (hb hby own_d5_7) (flt (by decide : ¬ ((2 : Int32) < (2 : Int32)))).2.1 (q := 20) (by decide) (by decide) ?_
  refine own_retV X21 hx Bd.returns Bd.notSynchronized (by decide) (by decide) (hb hby own_d5_20) ?_
  show own_Q5 Z o0 p1 k_o0 w_o0_0 w_o0_1 h0 n0 _ T21.heap _
  rw [e21]
  exact ⟨rfl, N21, Kp22, V_o0_21⟩
theorem own_d2_0 : decode prog_2_method_1_code 0 = .ok (.aload_n 0, 1) := by decide +kernel
theorem own_d2_1 : decode prog_2_method_1_code 1 = .ok (.invokespecial 1, 3) := by decide +kernel
theorem own_d2_4 : decode prog_2_method_1_code 4 = .ok (.aload_n 0, 1) := by decide +kernel
theorem own_d2_5 : decode prog_2_method_1_code 5 = .ok (.iload_n 1, 1) := by decide +kernel
theorem own_d2_6 : decode prog_2_method_1_code 6 = .ok (.newarray .long, 2) := by decide +kernel
theorem own_d2_8 : decode prog_2_method_1_code 8 = .ok (.putfield 7, 3) := by decide +kernel
theorem own_d2_11 : decode prog_2_method_1_code 11 = .ok (.aload_n 0, 1) := by decide +kernel
theorem own_d2_12 : decode prog_2_method_1_code 12 = .ok (.iload_n 1, 1) := by decide +kernel
theorem own_d2_13 : decode prog_2_method_1_code 13 = .ok (.newarray .long, 2) := by decide +kernel
theorem own_d2_15 : decode prog_2_method_1_code 15 = .ok (.putfield 13, 3) := by decide +kernel
theorem own_d2_18 : decode prog_2_method_1_code 18 = .ok (.aload_n 0, 1) := by decide +kernel
theorem own_d2_19 : decode prog_2_method_1_code 19 = .ok (.iload_n 1, 1) := by decide +kernel
theorem own_d2_20 : decode prog_2_method_1_code 20 = .ok (.newarray .long, 2) := by decide +kernel
theorem own_d2_22 : decode prog_2_method_1_code 22 = .ok (.putfield 16, 3) := by decide +kernel
theorem own_d2_25 : decode prog_2_method_1_code 25 = .ok (.aload_n 0, 1) := by decide +kernel
theorem own_d2_26 : decode prog_2_method_1_code 26 = .ok (.iload_n 1, 1) := by decide +kernel
theorem own_d2_27 : decode prog_2_method_1_code 27 = .ok (.newarray .long, 2) := by decide +kernel
theorem own_d2_29 : decode prog_2_method_1_code 29 = .ok (.putfield 19, 3) := by decide +kernel
theorem own_d2_32 : decode prog_2_method_1_code 32 = .ok (.aload_n 0, 1) := by decide +kernel
theorem own_d2_33 : decode prog_2_method_1_code 33 = .ok (.iload_n 1, 1) := by decide +kernel
theorem own_d2_34 : decode prog_2_method_1_code 34 = .ok (.newarray .int, 2) := by decide +kernel
theorem own_d2_36 : decode prog_2_method_1_code 36 = .ok (.putfield 22, 3) := by decide +kernel
theorem own_d2_39 : decode prog_2_method_1_code 39 = .ok (.aload_n 0, 1) := by decide +kernel
theorem own_d2_40 : decode prog_2_method_1_code 40 = .ok (.getfield 13, 3) := by decide +kernel
theorem own_d2_43 : decode prog_2_method_1_code 43 = .ok (.ldc2_w 26, 3) := by decide +kernel
theorem own_d2_46 : decode prog_2_method_1_code 46 = .ok (.invokestatic 28, 3) := by decide +kernel
theorem own_pd0 : parseMethodDescriptor "([JJ)V" = some ⟨[(.array .long), .long], none⟩ := by decide +kernel
theorem own_d2_49 : decode prog_2_method_1_code 49 = .ok (.aload_n 0, 1) := by decide +kernel
theorem own_d2_50 : decode prog_2_method_1_code 50 = .ok (.getfield 16, 3) := by decide +kernel
theorem own_d2_53 : decode prog_2_method_1_code 53 = .ok (.ldc2_w 26, 3) := by decide +kernel
theorem own_d2_56 : decode prog_2_method_1_code 56 = .ok (.invokestatic 28, 3) := by decide +kernel
theorem own_d2_59 : decode prog_2_method_1_code 59 = .ok (.aload_n 0, 1) := by decide +kernel
theorem own_d2_60 : decode prog_2_method_1_code 60 = .ok (.getfield 19, 3) := by decide +kernel
theorem own_d2_63 : decode prog_2_method_1_code 63 = .ok (.ldc2_w 26, 3) := by decide +kernel
theorem own_d2_66 : decode prog_2_method_1_code 66 = .ok (.invokestatic 28, 3) := by decide +kernel
theorem own_d2_69 : decode prog_2_method_1_code 69 = .ok (.aload_n 0, 1) := by decide +kernel
theorem own_d2_70 : decode prog_2_method_1_code 70 = .ok (.getfield 22, 3) := by decide +kernel
theorem own_d2_73 : decode prog_2_method_1_code 73 = .ok (.iconst (-1), 1) := by decide +kernel
theorem own_d2_74 : decode prog_2_method_1_code 74 = .ok (.invokestatic 34, 3) := by decide +kernel
theorem own_pd1 : parseMethodDescriptor "([II)V" = some ⟨[(.array .int), .int], none⟩ := by decide +kernel
theorem own_d2_77 : decode prog_2_method_1_code 77 = .ok (.return_, 1) := by decide +kernel
def own_Q2 (Z : State) (o0 : Addr) (w_o0_revisions : Value) (w_o0_lastWipeOut : Value) (w_o0_lastRemoval : Value) (w_o0_lastStrongRemoval : Value) (w_o0_lastPosition : Value) (h0 : Heap) (n0 : Nat) (v : Option Value) (h : Heap) (L : List Loc) : Prop := v = none ∧ Fr n0 L ∧ Keep h0 h [o0] ∧ ∃ (b26 b44 b64 b86 b110 : Addr) (k26 k44 k64 k86 k110 : ClassId), h0.size ≤ b26 ∧ h0.size ≤ b44 ∧ h0.size ≤ b64 ∧ h0.size ≤ b86 ∧ h0.size ≤ b110 ∧ b26 ≠ b44 ∧ b26 ≠ b64 ∧ b26 ≠ b86 ∧ b26 ≠ b110 ∧ b44 ≠ b64 ∧ b44 ≠ b86 ∧ b44 ≠ b110 ∧ b64 ≠ b86 ∧ b64 ≠ b110 ∧ b86 ≠ b110 ∧ Exa Z h o0 "com/example/arcwise/arcwise/adaptation/History" ∧ Fld Z h o0 "com/example/arcwise/arcwise/adaptation/History" "revisions" "[J" (.ref b26) ∧ Fld Z h o0 "com/example/arcwise/arcwise/adaptation/History" "lastWipeOut" "[J" (.ref b44) ∧ Fld Z h o0 "com/example/arcwise/arcwise/adaptation/History" "lastRemoval" "[J" (.ref b64) ∧ Fld Z h o0 "com/example/arcwise/arcwise/adaptation/History" "lastStrongRemoval" "[J" (.ref b86) ∧ Fld Z h o0 "com/example/arcwise/arcwise/adaptation/History" "lastPosition" "[I" (.ref b110) ∧ Arv Z h b26 k26 .long (2 : Int32) [(.long (0 : Int64)), (.long (0 : Int64))] (.long (0 : Int64)) ∧ Arv Z h b44 k44 .long (2 : Int32) [(.long (-1 : Int64)), (.long (-1 : Int64))] (.long (0 : Int64)) ∧ Arv Z h b64 k64 .long (2 : Int32) [(.long (-1 : Int64)), (.long (-1 : Int64))] (.long (0 : Int64)) ∧ Arv Z h b86 k86 .long (2 : Int32) [(.long (-1 : Int64)), (.long (-1 : Int64))] (.long (0 : Int64)) ∧ Arv Z h b110 k110 .int (2 : Int32) [(.int (-1 : Int32)), (.int (-1 : Int32))] (.int (0 : Int32))
theorem own_pn_rm2 : plainName "com/example/arcwise/arcwise/adaptation/History" = true := by first | (simp [plainName, overriddenIn]; done) | decide +kernel
theorem own_ef_rm2 (m : MethodId) (o0 : Addr) : entryFrame m #[(.ref o0), (.int (2 : Int32))] 2 = mkF m 0 #[.val (.ref o0), .val (.int (2 : Int32))] [] := by first | (simp [entryFrame, mkF, argsToLocals, Value.category]; done) | rfl
set_option maxRecDepth 65536 in
set_option maxHeartbeats 40000000 in
theorem own_rm2 (l : Launch) (Z : State) (a0 : Array Value) (hw : ∀ d ∈ tables_1, d.before a0 Z = true) (ws : List Jvm.Cond) (o0 : Addr) (w_o0_revisions : Value) (w_o0_lastWipeOut : Value) (w_o0_lastRemoval : Value) (w_o0_lastStrongRemoval : Value) (w_o0_lastPosition : Value) (h0 : Heap) (n0 : Nat) (Z0 : n0 ≤ h0.size) (E_o0 : Exa Z h0 o0 "com/example/arcwise/arcwise/adaptation/History") (F_o0_revisions : Fld Z h0 o0 "com/example/arcwise/arcwise/adaptation/History" "revisions" "[J" w_o0_revisions) (F_o0_lastWipeOut : Fld Z h0 o0 "com/example/arcwise/arcwise/adaptation/History" "lastWipeOut" "[J" w_o0_lastWipeOut) (F_o0_lastRemoval : Fld Z h0 o0 "com/example/arcwise/arcwise/adaptation/History" "lastRemoval" "[J" w_o0_lastRemoval) (F_o0_lastStrongRemoval : Fld Z h0 o0 "com/example/arcwise/arcwise/adaptation/History" "lastStrongRemoval" "[J" w_o0_lastStrongRemoval) (F_o0_lastPosition : Fld Z h0 o0 "com/example/arcwise/arcwise/adaptation/History" "lastPosition" "[I" w_o0_lastPosition) (g_o0 : n0 ≤ o0) :
    MetFree l (⟨"com/example/arcwise/arcwise/adaptation/History", "<init>", "(I)V"⟩ : MethodName) (head1 (Jvm.Cond.code (⟨"com/example/arcwise/arcwise/adaptation/History", "<init>", "(I)V"⟩ : MethodName) prog_2_method_1_code 2 none :: ws) ({ frames := 1, cells := 5, slots := 10, locals := 16 } : Room)) (fun a U => a = #[(.ref o0), (.int (2 : Int32))] ∧ Z.Warmed39 U.vm ∧ U.heap = h0) (fun _ _ _ _ _ => True) (fun _ U o U' => ∃ v L, o = .returned v ∧ own_Q2 Z o0 w_o0_revisions w_o0_lastWipeOut w_o0_lastRemoval w_o0_lastStrongRemoval w_o0_lastPosition h0 n0 v U'.heap L ∧ FrameEnd U o U' L ({ frames := 1, cells := 5, slots := 10, locals := 16 } : Room).cells ({ frames := 1, cells := 5, slots := 10, locals := 16 } : Room).slots) := by
  refine MetFree.of_bodySF (plainFor_of_name own_pn_rm2) hisR ?_
  intro p e s m args below meth c s₁ Bd hml0 hP hK
  obtain ⟨rfl, hZ, hh⟩ := hP
  have hx := Bd.exec
  have hby := Bd.bytes
  have hml : c.maxLocals = 2 := hml0
  have hown : s.vm.findClass "com/example/arcwise/arcwise/adaptation/History" = some m.cls := findClass_of_methodNamed Bd.named
  have hnm := (name_of_methodNamed Bd.named Bd.method).1
  have X0 : Stand p l e ({ frames := 1, cells := 5, slots := 10, locals := 16 } : Room) s m #[(.ref o0), (.int (2 : Int32))] below meth c s₁ [] 0 0 := Stand.of_body Bd
  have e0 : s₁.heap = h0 := by rw [← hh, Bd.state]; rfl
  have N0 := Fr.nil n0
  show own_End p e below s (own_Q2 Z o0 w_o0_revisions w_o0_lastWipeOut w_o0_lastRemoval w_o0_lastStrongRemoval w_o0_lastPosition h0 n0) ({ frames := 1, cells := 5, slots := 10, locals := 16 } : Room).cells ({ frames := 1, cells := 5, slots := 10, locals := 16 } : Room).slots (s₁.setTop (entryFrame m #[(.ref o0), (.int (2 : Int32))] 2))
  rw [own_ef_rm2]
  refine own_aloadN X0 hx (hb hby own_d2_0) rfl rfl (q := 1) rfl ?_
  obtain ⟨T25, X25, e25, st25⟩ := initO X0 hx hZ hown (hw _ (List.mem_of_getElem? (i := 10) rfl)) (hw _ (List.mem_of_getElem? (i := 11) rfl)) (hw _ (List.mem_of_getElem? (i := 12) rfl)) e0 (g := (mkF m 1 #[.val (.ref o0), .val (.int (2 : Int32))] [(.ref o0)])) rfl (by rw [hml]; rfl) rfl (hb hby own_d2_1) (by decide) (W := 0) (by show 2 * 0 + _ ≤ _; exact Nat.le_of_eq rfl) (by decide)
  refine own_back st25 ?_
  show own_End p e below s _ _ _ (T25.setTop (mkF m 4 #[.val (.ref o0), .val (.int (2 : Int32))] []))
  refine own_aloadN X25 hx (hb hby own_d2_4) rfl rfl (q := 5) rfl ?_
  refine own_iloadN X25 hx (hb hby own_d2_5) rfl (q := 6) rfl ?_
  obtain ⟨T26, h26, k26, X26, e26, E26, A26, st26⟩ := newP X25 hx hZ (hw _ (List.mem_of_getElem? (i := 13) rfl)) e25 (g := (mkF m 6 #[.val (.ref o0), .val (.int (2 : Int32))] [(.int (2 : Int32)), (.ref o0)])) rfl (hb hby own_d2_6) rfl (by decide) (cap := 2) (by decide) (by decide) (by decide) (by decide)
  obtain ⟨b26, g26⟩ : ∃ z, z = h0.size := ⟨_, rfl⟩
  have ne_o0_b26 : o0 ≠ b26 := Nat.ne_of_lt (Nat.lt_of_lt_of_le E_o0.lt (Nat.le_of_eq g26.symm))
  have g_b26 : n0 ≤ b26 := Nat.le_trans Z0 (Nat.le_of_eq g26.symm)
  have sz_b26 : h0.size ≤ b26 := Nat.le_trans (Keep.refl h0 [o0]).1 (Nat.le_of_eq g26.symm)
  have Z27 := Nat.le_trans Z0 E26.1
  rw [← g26] at A26 st26
  have E_o0_28 := E_o0.ext E26
  have F_o0_revisions_29 := F_o0_revisions.ext E26
  have F_o0_lastWipeOut_30 := F_o0_lastWipeOut.ext E26
  have F_o0_lastRemoval_31 := F_o0_lastRemoval.ext E26
  have F_o0_lastStrongRemoval_32 := F_o0_lastStrongRemoval.ext E26
  have F_o0_lastPosition_33 := F_o0_lastPosition.ext E26
  have Kp34 : Keep h0 _ [o0] := (Keep.refl h0 [o0]).ext E26
  have V_b26 : Arv Z h26 b26 k26 .long (2 : Int32) [(.long (0 : Int64)), (.long (0 : Int64))] (.long (0 : Int64)) := (Arv.new A26 (by decide)).pad (pad_rep [] (.long (0 : Int64)) 2)
  refine own_back st26 ?_
  show own_End p e below s _ _ _ (T26.setTop (mkF m 8 #[.val (.ref o0), .val (.int (2 : Int32))] [(.ref b26), (.ref o0)]))
  obtain ⟨T35, h35, X35, e35, W35, st35⟩ := putF X26 hx hZ hown (host := "") (Or.inl (hw _ (List.mem_of_getElem? (i := 14) rfl))) Via.refl e26 F_o0_revisions_29 E_o0_28 (Or.inr ⟨(hw _ (List.mem_of_getElem? (i := 15) rfl)), rfl, hnm⟩) (hw _ (List.mem_of_getElem? (i := 5) rfl)) (ty := (.array .long)) (by decide) rfl rfl (g := (mkF m 8 #[.val (.ref o0), .val (.int (2 : Int32))] [(.ref b26), (.ref o0)])) rfl rfl (hb hby own_d2_8)
  have F_o0_revisions_35 := F_o0_revisions_29.same W35
  have E_o0_36 := E_o0_28.wr W35
  have F_o0_lastWipeOut_37 := F_o0_lastWipeOut_30.other W35 (Or.inr (slot_ne (Or.inr (hw _ (List.mem_of_getElem? (i := 17) rfl))) (Or.inr (hw _ (List.mem_of_getElem? (i := 15) rfl))) (by decide) (t := (.array .long)) (t' := (.array .long)) (by decide) (by decide)))
  have F_o0_lastRemoval_38 := F_o0_lastRemoval_31.other W35 (Or.inr (slot_ne (Or.inr (hw _ (List.mem_of_getElem? (i := 19) rfl))) (Or.inr (hw _ (List.mem_of_getElem? (i := 15) rfl))) (by decide) (t := (.array .long)) (t' := (.array .long)) (by decide) (by decide)))
  have F_o0_lastStrongRemoval_39 := F_o0_lastStrongRemoval_32.other W35 (Or.inr (slot_ne (Or.inr (hw _ (List.mem_of_getElem? (i := 21) rfl))) (Or.inr (hw _ (List.mem_of_getElem? (i := 15) rfl))) (by decide) (t := (.array .long)) (t' := (.array .long)) (by decide) (by decide)))
  have F_o0_lastPosition_40 := F_o0_lastPosition_33.other W35 (Or.inr (slot_ne (Or.inr (hw _ (List.mem_of_getElem? (i := 24) rfl))) (Or.inr (hw _ (List.mem_of_getElem? (i := 15) rfl))) (by decide) (t := (.array .int)) (t' := (.array .long)) (by decide) (by decide)))
  have V_b26_41 := V_b26.other W35 (Ne.symm ne_o0_b26)
  have Kp42 : Keep h0 _ [o0] := Kp34.wr W35 (Or.inl (List.mem_of_getElem? (i := 0) rfl))
  have Z43 := Nat.le_trans Z27 (Keep.of_wr W35).1
  obtain ⟨L35, X35, N35⟩ := own_gl X35 (Fr.snoc X35 N0 g_o0)
  refine own_back st35 ?_
  show own_End p e below s _ _ _ (T35.setTop (mkF m 11 #[.val (.ref o0), .val (.int (2 : Int32))] []))
  refine own_aloadN X35 hx (hb hby own_d2_11) rfl rfl (q := 12) rfl ?_
  refine own_iloadN X35 hx (hb hby own_d2_12) rfl (q := 13) rfl ?_
  obtain ⟨T44, h44, k44, X44, e44, E44, A44, st44⟩ := newP X35 hx hZ (hw _ (List.mem_of_getElem? (i := 13) rfl)) e35 (g := (mkF m 13 #[.val (.ref o0), .val (.int (2 : Int32))] [(.int (2 : Int32)), (.ref o0)])) rfl (hb hby own_d2_13) rfl (by decide) (cap := 2) (by decide) (by decide) (by decide) (by decide)
  obtain ⟨b44, g44⟩ : ∃ z, z = h35.size := ⟨_, rfl⟩
  have ne_o0_b44 : o0 ≠ b44 := Nat.ne_of_lt (Nat.lt_of_lt_of_le E_o0_36.lt (Nat.le_of_eq g44.symm))
  have ne_b26_b44 : b26 ≠ b44 := Nat.ne_of_lt (Nat.lt_of_lt_of_le V_b26_41.lt (Nat.le_of_eq g44.symm))
  have g_b44 : n0 ≤ b44 := Nat.le_trans Z43 (Nat.le_of_eq g44.symm)
  have sz_b44 : h0.size ≤ b44 := Nat.le_trans Kp42.1 (Nat.le_of_eq g44.symm)
  have Z45 := Nat.le_trans Z43 E44.1
  rw [← g44] at A44 st44
  have E_o0_46 := E_o0_36.ext E44
  have F_o0_revisions_47 := F_o0_revisions_35.ext E44
  have F_o0_lastWipeOut_48 := F_o0_lastWipeOut_37.ext E44
  have F_o0_lastRemoval_49 := F_o0_lastRemoval_38.ext E44
  have F_o0_lastStrongRemoval_50 := F_o0_lastStrongRemoval_39.ext E44
  have F_o0_lastPosition_51 := F_o0_lastPosition_40.ext E44
  have V_b26_52 := V_b26_41.ext E44
  have Kp53 : Keep h0 _ [o0] := Kp42.ext E44
  have V_b44 : Arv Z h44 b44 k44 .long (2 : Int32) [(.long (0 : Int64)), (.long (0 : Int64))] (.long (0 : Int64)) := (Arv.new A44 (by decide)).pad (pad_rep [] (.long (0 : Int64)) 2)
  refine own_back st44 ?_
  show own_End p e below s _ _ _ (T44.setTop (mkF m 15 #[.val (.ref o0), .val (.int (2 : Int32))] [(.ref b44), (.ref o0)]))
  obtain ⟨T54, h54, X54, e54, W54, st54⟩ := putF X44 hx hZ hown (host := "") (Or.inl (hw _ (List.mem_of_getElem? (i := 16) rfl))) Via.refl e44 F_o0_lastWipeOut_48 E_o0_46 (Or.inr ⟨(hw _ (List.mem_of_getElem? (i := 17) rfl)), rfl, hnm⟩) (hw _ (List.mem_of_getElem? (i := 5) rfl)) (ty := (.array .long)) (by decide) rfl rfl (g := (mkF m 15 #[.val (.ref o0), .val (.int (2 : Int32))] [(.ref b44), (.ref o0)])) rfl rfl (hb hby own_d2_15)
  have F_o0_lastWipeOut_54 := F_o0_lastWipeOut_48.same W54
  have E_o0_55 := E_o0_46.wr W54
  have F_o0_revisions_56 := F_o0_revisions_47.other W54 (Or.inr (slot_ne (Or.inr (hw _ (List.mem_of_getElem? (i := 15) rfl))) (Or.inr (hw _ (List.mem_of_getElem? (i := 17) rfl))) (by decide) (t := (.array .long)) (t' := (.array .long)) (by decide) (by decide)))
  have F_o0_lastRemoval_57 := F_o0_lastRemoval_49.other W54 (Or.inr (slot_ne (Or.inr (hw _ (List.mem_of_getElem? (i := 19) rfl))) (Or.inr (hw _ (List.mem_of_getElem? (i := 17) rfl))) (by decide) (t := (.array .long)) (t' := (.array .long)) (by decide) (by decide)))
  have F_o0_lastStrongRemoval_58 := F_o0_lastStrongRemoval_50.other W54 (Or.inr (slot_ne (Or.inr (hw _ (List.mem_of_getElem? (i := 21) rfl))) (Or.inr (hw _ (List.mem_of_getElem? (i := 17) rfl))) (by decide) (t := (.array .long)) (t' := (.array .long)) (by decide) (by decide)))
  have F_o0_lastPosition_59 := F_o0_lastPosition_51.other W54 (Or.inr (slot_ne (Or.inr (hw _ (List.mem_of_getElem? (i := 24) rfl))) (Or.inr (hw _ (List.mem_of_getElem? (i := 17) rfl))) (by decide) (t := (.array .int)) (t' := (.array .long)) (by decide) (by decide)))
  have V_b26_60 := V_b26_52.other W54 (Ne.symm ne_o0_b26)
  have V_b44_61 := V_b44.other W54 (Ne.symm ne_o0_b44)
  have Kp62 : Keep h0 _ [o0] := Kp53.wr W54 (Or.inl (List.mem_of_getElem? (i := 0) rfl))
  have Z63 := Nat.le_trans Z45 (Keep.of_wr W54).1
  obtain ⟨L54, X54, N54⟩ := own_gl X54 (Fr.snoc X54 N35 g_o0)
  refine own_back st54 ?_
  show own_End p e below s _ _ _ (T54.setTop (mkF m 18 #[.val (.ref o0), .val (.int (2 : Int32))] []))
  refine own_aloadN X54 hx (hb hby own_d2_18) rfl rfl (q := 19) rfl ?_
  refine own_iloadN X54 hx (hb hby own_d2_19) rfl (q := 20) rfl ?_
  obtain ⟨T64, h64, k64, X64, e64, E64, A64, st64⟩ := newP X54 hx hZ (hw _ (List.mem_of_getElem? (i := 13) rfl)) e54 (g := (mkF m 20 #[.val (.ref o0), .val (.int (2 : Int32))] [(.int (2 : Int32)), (.ref o0)])) rfl (hb hby own_d2_20) rfl (by decide) (cap := 2) (by decide) (by decide) (by decide) (by decide)
  obtain ⟨b64, g64⟩ : ∃ z, z = h54.size := ⟨_, rfl⟩
  have ne_o0_b64 : o0 ≠ b64 := Nat.ne_of_lt (Nat.lt_of_lt_of_le E_o0_55.lt (Nat.le_of_eq g64.symm))
  have ne_b26_b64 : b26 ≠ b64 := Nat.ne_of_lt (Nat.lt_of_lt_of_le V_b26_60.lt (Nat.le_of_eq g64.symm))
  have ne_b44_b64 : b44 ≠ b64 := Nat.ne_of_lt (Nat.lt_of_lt_of_le V_b44_61.lt (Nat.le_of_eq g64.symm))
  have g_b64 : n0 ≤ b64 := Nat.le_trans Z63 (Nat.le_of_eq g64.symm)
  have sz_b64 : h0.size ≤ b64 := Nat.le_trans Kp62.1 (Nat.le_of_eq g64.symm)
  have Z65 := Nat.le_trans Z63 E64.1
  rw [← g64] at A64 st64
  have E_o0_66 := E_o0_55.ext E64
  have F_o0_revisions_67 := F_o0_revisions_56.ext E64
  have F_o0_lastWipeOut_68 := F_o0_lastWipeOut_54.ext E64
  have F_o0_lastRemoval_69 := F_o0_lastRemoval_57.ext E64
  have F_o0_lastStrongRemoval_70 := F_o0_lastStrongRemoval_58.ext E64
  have F_o0_lastPosition_71 := F_o0_lastPosition_59.ext E64
  have V_b26_72 := V_b26_60.ext E64
  have V_b44_73 := V_b44_61.ext E64
  have Kp74 : Keep h0 _ [o0] := Kp62.ext E64
  have V_b64 : Arv Z h64 b64 k64 .long (2 : Int32) [(.long (0 : Int64)), (.long (0 : Int64))] (.long (0 : Int64)) := (Arv.new A64 (by decide)).pad (pad_rep [] (.long (0 : Int64)) 2)
  refine own_back st64 ?_
  show own_End p e below s _ _ _ (T64.setTop (mkF m 22 #[.val (.ref o0), .val (.int (2 : Int32))] [(.ref b64), (.ref o0)]))
  obtain ⟨T75, h75, X75, e75, W75, st75⟩ := putF X64 hx hZ hown (host := "") (Or.inl (hw _ (List.mem_of_getElem? (i := 18) rfl))) Via.refl e64 F_o0_lastRemoval_69 E_o0_66 (Or.inr ⟨(hw _ (List.mem_of_getElem? (i := 19) rfl)), rfl, hnm⟩) (hw _ (List.mem_of_getElem? (i := 5) rfl)) (ty := (.array .long)) (by decide) rfl rfl (g := (mkF m 22 #[.val (.ref o0), .val (.int (2 : Int32))] [(.ref b64), (.ref o0)])) rfl rfl (hb hby own_d2_22)
  have F_o0_lastRemoval_75 := F_o0_lastRemoval_69.same W75
  have E_o0_76 := E_o0_66.wr W75
  have F_o0_revisions_77 := F_o0_revisions_67.other W75 (Or.inr (slot_ne (Or.inr (hw _ (List.mem_of_getElem? (i := 15) rfl))) (Or.inr (hw _ (List.mem_of_getElem? (i := 19) rfl))) (by decide) (t := (.array .long)) (t' := (.array .long)) (by decide) (by decide)))
  have F_o0_lastWipeOut_78 := F_o0_lastWipeOut_68.other W75 (Or.inr (slot_ne (Or.inr (hw _ (List.mem_of_getElem? (i := 17) rfl))) (Or.inr (hw _ (List.mem_of_getElem? (i := 19) rfl))) (by decide) (t := (.array .long)) (t' := (.array .long)) (by decide) (by decide)))
  have F_o0_lastStrongRemoval_79 := F_o0_lastStrongRemoval_70.other W75 (Or.inr (slot_ne (Or.inr (hw _ (List.mem_of_getElem? (i := 21) rfl))) (Or.inr (hw _ (List.mem_of_getElem? (i := 19) rfl))) (by decide) (t := (.array .long)) (t' := (.array .long)) (by decide) (by decide)))
  have F_o0_lastPosition_80 := F_o0_lastPosition_71.other W75 (Or.inr (slot_ne (Or.inr (hw _ (List.mem_of_getElem? (i := 24) rfl))) (Or.inr (hw _ (List.mem_of_getElem? (i := 19) rfl))) (by decide) (t := (.array .int)) (t' := (.array .long)) (by decide) (by decide)))
  have V_b26_81 := V_b26_72.other W75 (Ne.symm ne_o0_b26)
  have V_b44_82 := V_b44_73.other W75 (Ne.symm ne_o0_b44)
  have V_b64_83 := V_b64.other W75 (Ne.symm ne_o0_b64)
  have Kp84 : Keep h0 _ [o0] := Kp74.wr W75 (Or.inl (List.mem_of_getElem? (i := 0) rfl))
  have Z85 := Nat.le_trans Z65 (Keep.of_wr W75).1
  obtain ⟨L75, X75, N75⟩ := own_gl X75 (Fr.snoc X75 N54 g_o0)
  refine own_back st75 ?_
  show own_End p e below s _ _ _ (T75.setTop (mkF m 25 #[.val (.ref o0), .val (.int (2 : Int32))] []))
  refine own_aloadN X75 hx (hb hby own_d2_25) rfl rfl (q := 26) rfl ?_
  refine own_iloadN X75 hx (hb hby own_d2_26) rfl (q := 27) rfl ?_
  obtain ⟨T86, h86, k86, X86, e86, E86, A86, st86⟩ := newP X75 hx hZ (hw _ (List.mem_of_getElem? (i := 13) rfl)) e75 (g := (mkF m 27 #[.val (.ref o0), .val (.int (2 : Int32))] [(.int (2 : Int32)), (.ref o0)])) rfl (hb hby own_d2_27) rfl (by decide) (cap := 2) (by decide) (by decide) (by decide) (by decide)
  obtain ⟨b86, g86⟩ : ∃ z, z = h75.size := ⟨_, rfl⟩
  have ne_o0_b86 : o0 ≠ b86 := Nat.ne_of_lt (Nat.lt_of_lt_of_le E_o0_76.lt (Nat.le_of_eq g86.symm))
  have ne_b26_b86 : b26 ≠ b86 := Nat.ne_of_lt (Nat.lt_of_lt_of_le V_b26_81.lt (Nat.le_of_eq g86.symm))
  have ne_b44_b86 : b44 ≠ b86 := Nat.ne_of_lt (Nat.lt_of_lt_of_le V_b44_82.lt (Nat.le_of_eq g86.symm))
  have ne_b64_b86 : b64 ≠ b86 := Nat.ne_of_lt (Nat.lt_of_lt_of_le V_b64_83.lt (Nat.le_of_eq g86.symm))
  have g_b86 : n0 ≤ b86 := Nat.le_trans Z85 (Nat.le_of_eq g86.symm)
  have sz_b86 : h0.size ≤ b86 := Nat.le_trans Kp84.1 (Nat.le_of_eq g86.symm)
  have Z87 := Nat.le_trans Z85 E86.1
  rw [← g86] at A86 st86
  have E_o0_88 := E_o0_76.ext E86
  have F_o0_revisions_89 := F_o0_revisions_77.ext E86
  have F_o0_lastWipeOut_90 := F_o0_lastWipeOut_78.ext E86
  have F_o0_lastRemoval_91 := F_o0_lastRemoval_75.ext E86
  have F_o0_lastStrongRemoval_92 := F_o0_lastStrongRemoval_79.ext E86
  have F_o0_lastPosition_93 := F_o0_lastPosition_80.ext E86
  have V_b26_94 := V_b26_81.ext E86
  have V_b44_95 := V_b44_82.ext E86
  have V_b64_96 := V_b64_83.ext E86
  have Kp97 : Keep h0 _ [o0] := Kp84.ext E86
  have V_b86 : Arv Z h86 b86 k86 .long (2 : Int32) [(.long (0 : Int64)), (.long (0 : Int64))] (.long (0 : Int64)) := (Arv.new A86 (by decide)).pad (pad_rep [] (.long (0 : Int64)) 2)
  refine own_back st86 ?_
  show own_End p e below s _ _ _ (T86.setTop (mkF m 29 #[.val (.ref o0), .val (.int (2 : Int32))] [(.ref b86), (.ref o0)]))
  obtain ⟨T98, h98, X98, e98, W98, st98⟩ := putF X86 hx hZ hown (host := "") (Or.inl (hw _ (List.mem_of_getElem? (i := 20) rfl))) Via.refl e86 F_o0_lastStrongRemoval_92 E_o0_88 (Or.inr ⟨(hw _ (List.mem_of_getElem? (i := 21) rfl)), rfl, hnm⟩) (hw _ (List.mem_of_getElem? (i := 5) rfl)) (ty := (.array .long)) (by decide) rfl rfl (g := (mkF m 29 #[.val (.ref o0), .val (.int (2 : Int32))] [(.ref b86), (.ref o0)])) rfl rfl (hb hby own_d2_29)
  have F_o0_lastStrongRemoval_98 := F_o0_lastStrongRemoval_92.same W98
  have E_o0_99 := E_o0_88.wr W98
  have F_o0_revisions_100 := F_o0_revisions_89.other W98 (Or.inr (slot_ne (Or.inr (hw _ (List.mem_of_getElem? (i := 15) rfl))) (Or.inr (hw _ (List.mem_of_getElem? (i := 21) rfl))) (by decide) (t := (.array .long)) (t' := (.array .long)) (by decide) (by decide)))
  have F_o0_lastWipeOut_101 := F_o0_lastWipeOut_90.other W98 (Or.inr (slot_ne (Or.inr (hw _ (List.mem_of_getElem? (i := 17) rfl))) (Or.inr (hw _ (List.mem_of_getElem? (i := 21) rfl))) (by decide) (t := (.array .long)) (t' := (.array .long)) (by decide) (by decide)))
  have F_o0_lastRemoval_102 := F_o0_lastRemoval_91.other W98 (Or.inr (slot_ne (Or.inr (hw _ (List.mem_of_getElem? (i := 19) rfl))) (Or.inr (hw _ (List.mem_of_getElem? (i := 21) rfl))) (by decide) (t := (.array .long)) (t' := (.array .long)) (by decide) (by decide)))
  have F_o0_lastPosition_103 := F_o0_lastPosition_93.other W98 (Or.inr (slot_ne (Or.inr (hw _ (List.mem_of_getElem? (i := 24) rfl))) (Or.inr (hw _ (List.mem_of_getElem? (i := 21) rfl))) (by decide) (t := (.array .int)) (t' := (.array .long)) (by decide) (by decide)))
  have V_b26_104 := V_b26_94.other W98 (Ne.symm ne_o0_b26)
  have V_b44_105 := V_b44_95.other W98 (Ne.symm ne_o0_b44)
  have V_b64_106 := V_b64_96.other W98 (Ne.symm ne_o0_b64)
  have V_b86_107 := V_b86.other W98 (Ne.symm ne_o0_b86)
  have Kp108 : Keep h0 _ [o0] := Kp97.wr W98 (Or.inl (List.mem_of_getElem? (i := 0) rfl))
  have Z109 := Nat.le_trans Z87 (Keep.of_wr W98).1
  obtain ⟨L98, X98, N98⟩ := own_gl X98 (Fr.snoc X98 N75 g_o0)
  refine own_back st98 ?_
  show own_End p e below s _ _ _ (T98.setTop (mkF m 32 #[.val (.ref o0), .val (.int (2 : Int32))] []))
  refine own_aloadN X98 hx (hb hby own_d2_32) rfl rfl (q := 33) rfl ?_
  refine own_iloadN X98 hx (hb hby own_d2_33) rfl (q := 34) rfl ?_
  obtain ⟨T110, h110, k110, X110, e110, E110, A110, st110⟩ := newP X98 hx hZ (hw _ (List.mem_of_getElem? (i := 22) rfl)) e98 (g := (mkF m 34 #[.val (.ref o0), .val (.int (2 : Int32))] [(.int (2 : Int32)), (.ref o0)])) rfl (hb hby own_d2_34) rfl (by decide) (cap := 2) (by decide) (by decide) (by decide) (by decide)
  obtain ⟨b110, g110⟩ : ∃ z, z = h98.size := ⟨_, rfl⟩
  have ne_o0_b110 : o0 ≠ b110 := Nat.ne_of_lt (Nat.lt_of_lt_of_le E_o0_99.lt (Nat.le_of_eq g110.symm))
  have ne_b26_b110 : b26 ≠ b110 := Nat.ne_of_lt (Nat.lt_of_lt_of_le V_b26_104.lt (Nat.le_of_eq g110.symm))
  have ne_b44_b110 : b44 ≠ b110 := Nat.ne_of_lt (Nat.lt_of_lt_of_le V_b44_105.lt (Nat.le_of_eq g110.symm))
  have ne_b64_b110 : b64 ≠ b110 := Nat.ne_of_lt (Nat.lt_of_lt_of_le V_b64_106.lt (Nat.le_of_eq g110.symm))
  have ne_b86_b110 : b86 ≠ b110 := Nat.ne_of_lt (Nat.lt_of_lt_of_le V_b86_107.lt (Nat.le_of_eq g110.symm))
  have g_b110 : n0 ≤ b110 := Nat.le_trans Z109 (Nat.le_of_eq g110.symm)
  have sz_b110 : h0.size ≤ b110 := Nat.le_trans Kp108.1 (Nat.le_of_eq g110.symm)
  have Z111 := Nat.le_trans Z109 E110.1
  rw [← g110] at A110 st110
  have E_o0_112 := E_o0_99.ext E110
  have F_o0_revisions_113 := F_o0_revisions_100.ext E110
  have F_o0_lastWipeOut_114 := F_o0_lastWipeOut_101.ext E110
  have F_o0_lastRemoval_115 := F_o0_lastRemoval_102.ext E110
  have F_o0_lastStrongRemoval_116 := F_o0_lastStrongRemoval_98.ext E110
  have F_o0_lastPosition_117 := F_o0_lastPosition_103.ext E110
  have V_b26_118 := V_b26_104.ext E110
  have V_b44_119 := V_b44_105.ext E110
  have V_b64_120 := V_b64_106.ext E110
  have V_b86_121 := V_b86_107.ext E110
  have Kp122 : Keep h0 _ [o0] := Kp108.ext E110
  have V_b110 : Arv Z h110 b110 k110 .int (2 : Int32) [(.int (0 : Int32)), (.int (0 : Int32))] (.int (0 : Int32)) := (Arv.new A110 (by decide)).pad (pad_rep [] (.int (0 : Int32)) 2)
  refine own_back st110 ?_
  show own_End p e below s _ _ _ (T110.setTop (mkF m 36 #[.val (.ref o0), .val (.int (2 : Int32))] [(.ref b110), (.ref o0)]))
  obtain ⟨T123, h123, X123, e123, W123, st123⟩ := putF X110 hx hZ hown (host := "") (Or.inl (hw _ (List.mem_of_getElem? (i := 23) rfl))) Via.refl e110 F_o0_lastPosition_117 E_o0_112 (Or.inr ⟨(hw _ (List.mem_of_getElem? (i := 24) rfl)), rfl, hnm⟩) (hw _ (List.mem_of_getElem? (i := 5) rfl)) (ty := (.array .int)) (by decide) rfl rfl (g := (mkF m 36 #[.val (.ref o0), .val (.int (2 : Int32))] [(.ref b110), (.ref o0)])) rfl rfl (hb hby own_d2_36)
  have F_o0_lastPosition_123 := F_o0_lastPosition_117.same W123
  have E_o0_124 := E_o0_112.wr W123
  have F_o0_revisions_125 := F_o0_revisions_113.other W123 (Or.inr (slot_ne (Or.inr (hw _ (List.mem_of_getElem? (i := 15) rfl))) (Or.inr (hw _ (List.mem_of_getElem? (i := 24) rfl))) (by decide) (t := (.array .long)) (t' := (.array .int)) (by decide) (by decide)))
  have F_o0_lastWipeOut_126 := F_o0_lastWipeOut_114.other W123 (Or.inr (slot_ne (Or.inr (hw _ (List.mem_of_getElem? (i := 17) rfl))) (Or.inr (hw _ (List.mem_of_getElem? (i := 24) rfl))) (by decide) (t := (.array .long)) (t' := (.array .int)) (by decide) (by decide)))
  have F_o0_lastRemoval_127 := F_o0_lastRemoval_115.other W123 (Or.inr (slot_ne (Or.inr (hw _ (List.mem_of_getElem? (i := 19) rfl))) (Or.inr (hw _ (List.mem_of_getElem? (i := 24) rfl))) (by decide) (t := (.array .long)) (t' := (.array .int)) (by decide) (by decide)))
  have F_o0_lastStrongRemoval_128 := F_o0_lastStrongRemoval_116.other W123 (Or.inr (slot_ne (Or.inr (hw _ (List.mem_of_getElem? (i := 21) rfl))) (Or.inr (hw _ (List.mem_of_getElem? (i := 24) rfl))) (by decide) (t := (.array .long)) (t' := (.array .int)) (by decide) (by decide)))
  have V_b26_129 := V_b26_118.other W123 (Ne.symm ne_o0_b26)
  have V_b44_130 := V_b44_119.other W123 (Ne.symm ne_o0_b44)
  have V_b64_131 := V_b64_120.other W123 (Ne.symm ne_o0_b64)
  have V_b86_132 := V_b86_121.other W123 (Ne.symm ne_o0_b86)
  have V_b110_133 := V_b110.other W123 (Ne.symm ne_o0_b110)
  have Kp134 : Keep h0 _ [o0] := Kp122.wr W123 (Or.inl (List.mem_of_getElem? (i := 0) rfl))
  have Z135 := Nat.le_trans Z111 (Keep.of_wr W123).1
  obtain ⟨L123, X123, N123⟩ := own_gl X123 (Fr.snoc X123 N98 g_o0)
  refine own_back st123 ?_
  show own_End p e below s _ _ _ (T123.setTop (mkF m 39 #[.val (.ref o0), .val (.int (2 : Int32))] []))
  refine own_aloadN X123 hx (hb hby own_d2_39) rfl rfl (q := 40) rfl ?_
  obtain ⟨T136, X136, e136, st136⟩ := getF X123 hx hZ hown (host := "") (Or.inl (hw _ (List.mem_of_getElem? (i := 16) rfl))) Via.refl e123 F_o0_lastWipeOut_126 (g := (mkF m 40 #[.val (.ref o0), .val (.int (2 : Int32))] [(.ref o0)])) rfl rfl (hb hby own_d2_40)
  refine own_back st136 ?_
  show own_End p e below s _ _ _ (T136.setTop (mkF m 43 #[.val (.ref o0), .val (.int (2 : Int32))] [(.ref b44)]))
  refine own_back (X136.ldc2Long hx hown (mvT hZ (hw _ (List.mem_of_getElem? (i := 25) rfl))) (g := (mkF m 43 #[.val (.ref o0), .val (.int (2 : Int32))] [(.ref b44)])) rfl (hb hby own_d2_43)) ?_
  show own_End p e below s _ _ _ (T136.setTop (mkF m 46 #[.val (.ref o0), .val (.int (2 : Int32))] [(.long (-1 : Int64)), (.ref b44)]))
  obtain ⟨T137, Lc137, L137, X137, N137, hQ137, st137⟩ := own_shutS (val := none) (Q := own_Q4 Z b44 (-1 : Int64) k44 (0 : Int64) (0 : Int64) h123 n0) (rc := 0) (rs := 0) N123 (fun _ _ _ q => ⟨q.1, q.2.1⟩) (Jvm.LawKit.callS X136 hx (y := (⟨"java/util/Arrays", "fill", "([JJ)V"⟩ : MethodName)) hown (mvT hZ (hw _ (List.mem_of_getElem? (i := 26) rfl))) (mvT hZ (hw _ (List.mem_of_getElem? (i := 27) rfl))) (mvT hZ (hw _ (List.mem_of_getElem? (i := 28) rfl))) (mvT hZ (hw _ (List.mem_of_getElem? (i := 29) rfl))) (by decide) (backOf (W := 0) (own_rm4 l Z a0 hw [] b44 (-1 : Int64) k44 (0 : Int64) (0 : Int64) h123 n0 Z135 V_b44_130 g_b44) hZ (hw _ (List.mem_of_getElem? (i := 29) rfl)) (hw _ (List.mem_of_getElem? (i := 28) rfl)) (by decide) (by decide)) (g := (mkF m 46 #[.val (.ref o0), .val (.int (2 : Int32))] [(.long (-1 : Int64)), (.ref b44)])) rfl (by rw [hml]; rfl) (argsL := [(.ref b44), (.long (-1 : Int64))]) (rest := []) (lenOf own_pd0 rfl) rfl (by show 2 * 0 + _ ≤ _; exact Nat.le_of_eq rfl) (hb hby own_d2_46) (fun _ _ => ⟨rfl, e136, (by decide : 5 + 0 ≤ _), (by decide : 10 + 0 ≤ _)⟩))
  obtain ⟨-, -, K137, Q137_0⟩ := hQ137
  have E_o0_138 := E_o0_124.keep K137
  have F_o0_revisions_139 := F_o0_revisions_125.keep K137 (ninS ne_o0_b44 nin0)
  have F_o0_lastWipeOut_140 := F_o0_lastWipeOut_126.keep K137 (ninS ne_o0_b44 nin0)
  have F_o0_lastRemoval_141 := F_o0_lastRemoval_127.keep K137 (ninS ne_o0_b44 nin0)
  have F_o0_lastStrongRemoval_142 := F_o0_lastStrongRemoval_128.keep K137 (ninS ne_o0_b44 nin0)
  have F_o0_lastPosition_143 := F_o0_lastPosition_123.keep K137 (ninS ne_o0_b44 nin0)
  have V_b26_144 := V_b26_129.keep K137 (ninS ne_b26_b44 nin0)
  have V_b64_145 := V_b64_131.keep K137 (ninS (Ne.symm ne_b44_b64) nin0)
  have V_b86_146 := V_b86_132.keep K137 (ninS (Ne.symm ne_b44_b86) nin0)
  have V_b110_147 := V_b110_133.keep K137 (ninS (Ne.symm ne_b44_b110) nin0)
  have Kp148 : Keep h0 _ [o0] := Kp134.trans K137 (allS (Or.inr sz_b44) all0)
  have Z149 := Nat.le_trans Z135 K137.1
  refine own_back st137 ?_
  show own_End p e below s _ _ _ (T137.setTop (mkF m 49 #[.val (.ref o0), .val (.int (2 : Int32))] []))
  refine own_aloadN X137 hx (hb hby own_d2_49) rfl rfl (q := 50) rfl ?_
  obtain ⟨T150, X150, e150, st150⟩ := getF X137 hx hZ hown (host := "") (Or.inl (hw _ (List.mem_of_getElem? (i := 18) rfl))) Via.refl rfl F_o0_lastRemoval_141 (g := (mkF m 50 #[.val (.ref o0), .val (.int (2 : Int32))] [(.ref o0)])) rfl rfl (hb hby own_d2_50)
  refine own_back st150 ?_
  show own_End p e below s _ _ _ (T150.setTop (mkF m 53 #[.val (.ref o0), .val (.int (2 : Int32))] [(.ref b64)]))
  refine own_back (X150.ldc2Long hx hown (mvT hZ (hw _ (List.mem_of_getElem? (i := 25) rfl))) (g := (mkF m 53 #[.val (.ref o0), .val (.int (2 : Int32))] [(.ref b64)])) rfl (hb hby own_d2_53)) ?_
  show own_End p e below s _ _ _ (T150.setTop (mkF m 56 #[.val (.ref o0), .val (.int (2 : Int32))] [(.long (-1 : Int64)), (.ref b64)]))
  obtain ⟨T151, Lc151, L151, X151, N151, hQ151, st151⟩ := own_shutS (val := none) (Q := own_Q4 Z b64 (-1 : Int64) k64 (0 : Int64) (0 : Int64) T137.heap n0) (rc := 0) (rs := 0) N137 (fun _ _ _ q => ⟨q.1, q.2.1⟩) (Jvm.LawKit.callS X150 hx (y := (⟨"java/util/Arrays", "fill", "([JJ)V"⟩ : MethodName)) hown (mvT hZ (hw _ (List.mem_of_getElem? (i := 26) rfl))) (mvT hZ (hw _ (List.mem_of_getElem? (i := 27) rfl))) (mvT hZ (hw _ (List.mem_of_getElem? (i := 28) rfl))) (mvT hZ (hw _ (List.mem_of_getElem? (i := 29) rfl))) (by decide) (backOf (W := 0) (own_rm4 l Z a0 hw [] b64 (-1 : Int64) k64 (0 : Int64) (0 : Int64) T137.heap n0 Z149 V_b64_145 g_b64) hZ (hw _ (List.mem_of_getElem? (i := 29) rfl)) (hw _ (List.mem_of_getElem? (i := 28) rfl)) (by decide) (by decide)) (g := (mkF m 56 #[.val (.ref o0), .val (.int (2 : Int32))] [(.long (-1 : Int64)), (.ref b64)])) rfl (by rw [hml]; rfl) (argsL := [(.ref b64), (.long (-1 : Int64))]) (rest := []) (lenOf own_pd0 rfl) rfl (by show 2 * 0 + _ ≤ _; exact Nat.le_of_eq rfl) (hb hby own_d2_56) (fun _ _ => ⟨rfl, e150, (by decide : 5 + 0 ≤ _), (by decide : 10 + 0 ≤ _)⟩))
  obtain ⟨-, -, K151, Q151_0⟩ := hQ151
  have E_o0_152 := E_o0_138.keep K151
  have F_o0_revisions_153 := F_o0_revisions_139.keep K151 (ninS ne_o0_b64 nin0)
  have F_o0_lastWipeOut_154 := F_o0_lastWipeOut_140.keep K151 (ninS ne_o0_b64 nin0)
  have F_o0_lastRemoval_155 := F_o0_lastRemoval_141.keep K151 (ninS ne_o0_b64 nin0)
  have F_o0_lastStrongRemoval_156 := F_o0_lastStrongRemoval_142.keep K151 (ninS ne_o0_b64 nin0)
  have F_o0_lastPosition_157 := F_o0_lastPosition_143.keep K151 (ninS ne_o0_b64 nin0)
  have V_b26_158 := V_b26_144.keep K151 (ninS ne_b26_b64 nin0)
  have V_b86_159 := V_b86_146.keep K151 (ninS (Ne.symm ne_b64_b86) nin0)
  have V_b110_160 := V_b110_147.keep K151 (ninS (Ne.symm ne_b64_b110) nin0)
  have Q137_161 := Q137_0.keep K151 (ninS ne_b44_b64 nin0)
  have Kp162 : Keep h0 _ [o0] := Kp148.trans K151 (allS (Or.inr sz_b64) all0)
  have Z163 := Nat.le_trans Z149 K151.1
  refine own_back st151 ?_
  show own_End p e below s _ _ _ (T151.setTop (mkF m 59 #[.val (.ref o0), .val (.int (2 : Int32))] []))
  refine own_aloadN X151 hx (hb hby own_d2_59) rfl rfl (q := 60) rfl ?_
  obtain ⟨T164, X164, e164, st164⟩ := getF X151 hx hZ hown (host := "") (Or.inl (hw _ (List.mem_of_getElem? (i := 20) rfl))) Via.refl rfl F_o0_lastStrongRemoval_156 (g := (mkF m 60 #[.val (.ref o0), .val (.int (2 : Int32))] [(.ref o0)])) rfl rfl (hb hby own_d2_60)
  refine own_back st164 ?_
  show own_End p e below s _ _ _ (T164.setTop (mkF m 63 #[.val (.ref o0), .val (.int (2 : Int32))] [(.ref b86)]))
  refine own_back (X164.ldc2Long hx hown (mvT hZ (hw _ (List.mem_of_getElem? (i := 25) rfl))) (g := (mkF m 63 #[.val (.ref o0), .val (.int (2 : Int32))] [(.ref b86)])) rfl (hb hby own_d2_63)) ?_
  show own_End p e below s _ _ _ (T164.setTop (mkF m 66 #[.val (.ref o0), .val (.int (2 : Int32))] [(.long (-1 : Int64)), (.ref b86)]))
  obtain ⟨T165, Lc165, L165, X165, N165, hQ165, st165⟩ := own_shutS (val := none) (Q := own_Q4 Z b86 (-1 : Int64) k86 (0 : Int64) (0 : Int64) T151.heap n0) (rc := 0) (rs := 0) N151 (fun _ _ _ q => ⟨q.1, q.2.1⟩) (Jvm.LawKit.callS X164 hx (y := (⟨"java/util/Arrays", "fill", "([JJ)V"⟩ : MethodName)) hown (mvT hZ (hw _ (List.mem_of_getElem? (i := 26) rfl))) (mvT hZ (hw _ (List.mem_of_getElem? (i := 27) rfl))) (mvT hZ (hw _ (List.mem_of_getElem? (i := 28) rfl))) (mvT hZ (hw _ (List.mem_of_getElem? (i := 29) rfl))) (by decide) (backOf (W := 0) (own_rm4 l Z a0 hw [] b86 (-1 : Int64) k86 (0 : Int64) (0 : Int64) T151.heap n0 Z163 V_b86_159 g_b86) hZ (hw _ (List.mem_of_getElem? (i := 29) rfl)) (hw _ (List.mem_of_getElem? (i := 28) rfl)) (by decide) (by decide)) (g := (mkF m 66 #[.val (.ref o0), .val (.int (2 : Int32))] [(.long (-1 : Int64)), (.ref b86)])) rfl (by rw [hml]; rfl) (argsL := [(.ref b86), (.long (-1 : Int64))]) (rest := []) (lenOf own_pd0 rfl) rfl (by show 2 * 0 + _ ≤ _; exact Nat.le_of_eq rfl) (hb hby own_d2_66) (fun _ _ => ⟨rfl, e164, (by decide : 5 + 0 ≤ _), (by decide : 10 + 0 ≤ _)⟩))
  obtain ⟨-, -, K165, Q165_0⟩ := hQ165
  have E_o0_166 := E_o0_152.keep K165
  have F_o0_revisions_167 := F_o0_revisions_153.keep K165 (ninS ne_o0_b86 nin0)
  have F_o0_lastWipeOut_168 := F_o0_lastWipeOut_154.keep K165 (ninS ne_o0_b86 nin0)
  have F_o0_lastRemoval_169 := F_o0_lastRemoval_155.keep K165 (ninS ne_o0_b86 nin0)
  have F_o0_lastStrongRemoval_170 := F_o0_lastStrongRemoval_156.keep K165 (ninS ne_o0_b86 nin0)
  have F_o0_lastPosition_171 := F_o0_lastPosition_157.keep K165 (ninS ne_o0_b86 nin0)
  have V_b26_172 := V_b26_158.keep K165 (ninS ne_b26_b86 nin0)
  have V_b110_173 := V_b110_160.keep K165 (ninS (Ne.symm ne_b86_b110) nin0)
  have Q137_174 := Q137_161.keep K165 (ninS ne_b44_b86 nin0)
  have Q151_175 := Q151_0.keep K165 (ninS ne_b64_b86 nin0)
  have Kp176 : Keep h0 _ [o0] := Kp162.trans K165 (allS (Or.inr sz_b86) all0)
  have Z177 := Nat.le_trans Z163 K165.1
  refine own_back st165 ?_
  show own_End p e below s _ _ _ (T165.setTop (mkF m 69 #[.val (.ref o0), .val (.int (2 : Int32))] []))
  refine own_aloadN X165 hx (hb hby own_d2_69) rfl rfl (q := 70) rfl ?_
  obtain ⟨T178, X178, e178, st178⟩ := getF X165 hx hZ hown (host := "") (Or.inl (hw _ (List.mem_of_getElem? (i := 23) rfl))) Via.refl rfl F_o0_lastPosition_171 (g := (mkF m 70 #[.val (.ref o0), .val (.int (2 : Int32))] [(.ref o0)])) rfl rfl (hb hby own_d2_70)
  refine own_back st178 ?_
  show own_End p e below s _ _ _ (T178.setTop (mkF m 73 #[.val (.ref o0), .val (.int (2 : Int32))] [(.ref b110)]))
  refine own_iconst X178 hx (hb hby own_d2_73) (z := -1) rfl (q := 74) rfl ?_
  obtain ⟨T179, Lc179, L179, X179, N179, hQ179, st179⟩ := own_shutS (val := none) (Q := own_Q5 Z b110 (-1 : Int32) k110 (0 : Int32) (0 : Int32) T165.heap n0) (rc := 0) (rs := 0) N165 (fun _ _ _ q => ⟨q.1, q.2.1⟩) (Jvm.LawKit.callS X178 hx (y := (⟨"java/util/Arrays", "fill", "([II)V"⟩ : MethodName)) hown (mvT hZ (hw _ (List.mem_of_getElem? (i := 30) rfl))) (mvT hZ (hw _ (List.mem_of_getElem? (i := 31) rfl))) (mvT hZ (hw _ (List.mem_of_getElem? (i := 28) rfl))) (mvT hZ (hw _ (List.mem_of_getElem? (i := 32) rfl))) (by decide) (backOf (W := 0) (own_rm5 l Z a0 hw [] b110 (-1 : Int32) k110 (0 : Int32) (0 : Int32) T165.heap n0 Z177 V_b110_173 g_b110) hZ (hw _ (List.mem_of_getElem? (i := 32) rfl)) (hw _ (List.mem_of_getElem? (i := 28) rfl)) (by decide) (by decide)) (g := (mkF m 74 #[.val (.ref o0), .val (.int (2 : Int32))] [(.int (-1 : Int32)), (.ref b110)])) rfl (by rw [hml]; rfl) (argsL := [(.ref b110), (.int (-1 : Int32))]) (rest := []) (lenOf own_pd1 rfl) rfl (by show 2 * 0 + _ ≤ _; exact Nat.le_of_eq rfl) (hb hby own_d2_74) (fun _ _ => ⟨rfl, e178, (by decide : 5 + 0 ≤ _), (by decide : 10 + 0 ≤ _)⟩))
  obtain ⟨-, -, K179, Q179_0⟩ := hQ179
  have E_o0_180 := E_o0_166.keep K179
  have F_o0_revisions_181 := F_o0_revisions_167.keep K179 (ninS ne_o0_b110 nin0)
  have F_o0_lastWipeOut_182 := F_o0_lastWipeOut_168.keep K179 (ninS ne_o0_b110 nin0)
  have F_o0_lastRemoval_183 := F_o0_lastRemoval_169.keep K179 (ninS ne_o0_b110 nin0)
  have F_o0_lastStrongRemoval_184 := F_o0_lastStrongRemoval_170.keep K179 (ninS ne_o0_b110 nin0)
  have F_o0_lastPosition_185 := F_o0_lastPosition_171.keep K179 (ninS ne_o0_b110 nin0)
  have V_b26_186 := V_b26_172.keep K179 (ninS ne_b26_b110 nin0)
  have Q137_187 := Q137_174.keep K179 (ninS ne_b44_b110 nin0)
  have Q151_188 := Q151_175.keep K179 (ninS ne_b64_b110 nin0)
  have Q165_189 := Q165_0.keep K179 (ninS ne_b86_b110 nin0)
  have Kp190 : Keep h0 _ [o0] := Kp176.trans K179 (allS (Or.inr sz_b110) all0)
  have Z191 := Nat.le_trans Z177 K179.1
  refine own_back st179 ?_
  show own_End p e below s _ _ _ (T179.setTop (mkF m 77 #[.val (.ref o0), .val (.int (2 : Int32))] []))
  refine own_retV X179 hx Bd.returns Bd.notSynchronized (by decide) (by decide) (hb hby own_d2_77) ?_
  show own_Q2 Z o0 w_o0_revisions w_o0_lastWipeOut w_o0_lastRemoval w_o0_lastStrongRemoval w_o0_lastPosition h0 n0 _ T179.heap _
  exact ⟨rfl, N179, Kp190, b26, b44, b64, b86, b110, k26, k44, k64, k86, k110, sz_b26, sz_b44, sz_b64, sz_b86, sz_b110, ne_b26_b44, ne_b26_b64, ne_b26_b86, ne_b26_b110, ne_b44_b64, ne_b44_b86, ne_b44_b110, ne_b64_b86, ne_b64_b110, ne_b86_b110, E_o0_180, F_o0_revisions_181, F_o0_lastWipeOut_182, F_o0_lastRemoval_183, F_o0_lastStrongRemoval_184, F_o0_lastPosition_185, V_b26_186, Q137_187, Q151_188, Q165_189, Q179_0⟩
theorem own_d6_0 : decode prog_2_method_2_code 0 = .ok (.aload_n 0, 1) := by decide +kernel
theorem own_d6_1 : decode prog_2_method_2_code 1 = .ok (.getfield 7, 3) := by decide +kernel
theorem own_d6_4 : decode prog_2_method_2_code 4 = .ok (.iload_n 1, 1) := by decide +kernel
theorem own_d6_5 : decode prog_2_method_2_code 5 = .ok (.dup2, 1) := by decide +kernel
theorem own_d6_6 : decode prog_2_method_2_code 6 = .ok (.laload, 1) := by decide +kernel
theorem own_d6_7 : decode prog_2_method_2_code 7 = .ok (.lconst 1, 1) := by decide +kernel
theorem own_d6_8 : decode prog_2_method_2_code 8 = .ok (.ladd, 1) := by decide +kernel
theorem own_d6_9 : decode prog_2_method_2_code 9 = .ok (.dup2_x2, 1) := by decide +kernel
theorem own_d6_10 : decode prog_2_method_2_code 10 = .ok (.lastore, 1) := by decide +kernel
theorem own_d6_11 : decode prog_2_method_2_code 11 = .ok (.lstore 6, 2) := by decide +kernel
theorem own_d6_13 : decode prog_2_method_2_code 13 = .ok (.aload_n 0, 1) := by decide +kernel
theorem own_d6_14 : decode prog_2_method_2_code 14 = .ok (.getfield 22, 3) := by decide +kernel
theorem own_d6_17 : decode prog_2_method_2_code 17 = .ok (.iload_n 1, 1) := by decide +kernel
theorem own_d6_18 : decode prog_2_method_2_code 18 = .ok (.iload_n 2, 1) := by decide +kernel
theorem own_d6_19 : decode prog_2_method_2_code 19 = .ok (.iastore, 1) := by decide +kernel
theorem own_d6_20 : decode prog_2_method_2_code 20 = .ok (.iload_n 3, 1) := by decide +kernel
theorem own_d6_21 : decode prog_2_method_2_code 21 = .ok (.ifCond .eq 11, 3) := by decide +kernel
theorem own_d6_32 : decode prog_2_method_2_code 32 = .ok (.iload 4, 2) := by decide +kernel
theorem own_d6_34 : decode prog_2_method_2_code 34 = .ok (.ifCond .eq 11, 3) := by decide +kernel
theorem own_d6_45 : decode prog_2_method_2_code 45 = .ok (.iload 4, 2) := by decide +kernel
theorem own_d6_47 : decode prog_2_method_2_code 47 = .ok (.ifCond .ne 8, 3) := by decide +kernel
theorem own_d6_50 : decode prog_2_method_2_code 50 = .ok (.iload 5, 2) := by decide +kernel
theorem own_d6_52 : decode prog_2_method_2_code 52 = .ok (.ifCond .eq 11, 3) := by decide +kernel
theorem own_d6_63 : decode prog_2_method_2_code 63 = .ok (.return_, 1) := by decide +kernel
theorem own_d6_55 : decode prog_2_method_2_code 55 = .ok (.aload_n 0, 1) := by decide +kernel
theorem own_d6_56 : decode prog_2_method_2_code 56 = .ok (.getfield 19, 3) := by decide +kernel
theorem own_d6_59 : decode prog_2_method_2_code 59 = .ok (.iload_n 1, 1) := by decide +kernel
theorem own_d6_60 : decode prog_2_method_2_code 60 = .ok (.lload 6, 2) := by decide +kernel
theorem own_d6_62 : decode prog_2_method_2_code 62 = .ok (.lastore, 1) := by decide +kernel
theorem own_d6_37 : decode prog_2_method_2_code 37 = .ok (.aload_n 0, 1) := by decide +kernel
theorem own_d6_38 : decode prog_2_method_2_code 38 = .ok (.getfield 13, 3) := by decide +kernel
theorem own_d6_41 : decode prog_2_method_2_code 41 = .ok (.iload_n 1, 1) := by decide +kernel
theorem own_d6_42 : decode prog_2_method_2_code 42 = .ok (.lload 6, 2) := by decide +kernel
theorem own_d6_44 : decode prog_2_method_2_code 44 = .ok (.lastore, 1) := by decide +kernel
theorem own_d6_24 : decode prog_2_method_2_code 24 = .ok (.aload_n 0, 1) := by decide +kernel
theorem own_d6_25 : decode prog_2_method_2_code 25 = .ok (.getfield 16, 3) := by decide +kernel
theorem own_d6_28 : decode prog_2_method_2_code 28 = .ok (.iload_n 1, 1) := by decide +kernel
theorem own_d6_29 : decode prog_2_method_2_code 29 = .ok (.lload 6, 2) := by decide +kernel
theorem own_d6_31 : decode prog_2_method_2_code 31 = .ok (.lastore, 1) := by decide +kernel
def own_G6_0_w_o0_lastWipeOut_0 (p4 : Int32) (w_w_o0_revisions_0 : Int64) (w_w_o0_lastWipeOut_0 : Int64) : Int64 := (if p4 = (0 : Int32) then w_w_o0_lastWipeOut_0 else (w_w_o0_revisions_0 + (1 : Int64)))
def own_G6_0_w_o0_lastRemoval_0 (p3 : Int32) (w_w_o0_revisions_0 : Int64) (w_w_o0_lastRemoval_0 : Int64) : Int64 := (if p3 = (0 : Int32) then w_w_o0_lastRemoval_0 else (w_w_o0_revisions_0 + (1 : Int64)))
def own_G6_0_w_o0_lastStrongRemoval_0 (p4 : Int32) (p5 : Int32) (w_w_o0_revisions_0 : Int64) (w_w_o0_lastStrongRemoval_0 : Int64) : Int64 := (if p4 = (0 : Int32) then (if p5 = (0 : Int32) then w_w_o0_lastStrongRemoval_0 else (w_w_o0_revisions_0 + (1 : Int64))) else (w_w_o0_revisions_0 + (1 : Int64)))
def own_Q6_0 (Z : State) (o0 : Addr) (p2 : Int32) (p3 : Int32) (p4 : Int32) (p5 : Int32) (w_o0_revisions : Addr) (w_o0_lastWipeOut : Addr) (w_o0_lastRemoval : Addr) (w_o0_lastStrongRemoval : Addr) (w_o0_lastPosition : Addr) (k_w_o0_revisions : ClassId) (w_w_o0_revisions_0 : Int64) (w_w_o0_revisions_1 : Int64) (k_w_o0_lastWipeOut : ClassId) (w_w_o0_lastWipeOut_0 : Int64) (w_w_o0_lastWipeOut_1 : Int64) (k_w_o0_lastRemoval : ClassId) (w_w_o0_lastRemoval_0 : Int64) (w_w_o0_lastRemoval_1 : Int64) (k_w_o0_lastStrongRemoval : ClassId) (w_w_o0_lastStrongRemoval_0 : Int64) (w_w_o0_lastStrongRemoval_1 : Int64) (k_w_o0_lastPosition : ClassId) (w_w_o0_lastPosition_0 : Int32) (w_w_o0_lastPosition_1 : Int32) (h0 : Heap) (n0 : Nat) (v : Option Value) (h : Heap) (L : List Loc) : Prop := v = none ∧ Fr n0 L ∧ Keep h0 h [w_o0_revisions, w_o0_lastWipeOut, w_o0_lastRemoval, w_o0_lastStrongRemoval, w_o0_lastPosition] ∧ Arv Z h w_o0_revisions k_w_o0_revisions .long (2 : Int32) [(.long (w_w_o0_revisions_0 + (1 : Int64))), (.long w_w_o0_revisions_1)] (.long (0 : Int64)) ∧ Arv Z h w_o0_lastWipeOut k_w_o0_lastWipeOut .long (2 : Int32) [(.long (own_G6_0_w_o0_lastWipeOut_0 p4 w_w_o0_revisions_0 w_w_o0_lastWipeOut_0)), (.long w_w_o0_lastWipeOut_1)] (.long (0 : Int64)) ∧ Arv Z h w_o0_lastRemoval k_w_o0_lastRemoval .long (2 : Int32) [(.long (own_G6_0_w_o0_lastRemoval_0 p3 w_w_o0_revisions_0 w_w_o0_lastRemoval_0)), (.long w_w_o0_lastRemoval_1)] (.long (0 : Int64)) ∧ Arv Z h w_o0_lastStrongRemoval k_w_o0_lastStrongRemoval .long (2 : Int32) [(.long (own_G6_0_w_o0_lastStrongRemoval_0 p4 p5 w_w_o0_revisions_0 w_w_o0_lastStrongRemoval_0)), (.long w_w_o0_lastStrongRemoval_1)] (.long (0 : Int64)) ∧ Arv Z h w_o0_lastPosition k_w_o0_lastPosition .int (2 : Int32) [(.int p2), (.int w_w_o0_lastPosition_1)] (.int (0 : Int32))
theorem own_pn_rm6_0 : plainName "com/example/arcwise/arcwise/adaptation/History" = true := by first | (simp [plainName, overriddenIn]; done) | decide +kernel
theorem own_ef_rm6_0 (m : MethodId) (o0 : Addr) (p2 : Int32) (p3 : Int32) (p4 : Int32) (p5 : Int32) : entryFrame m #[(.ref o0), (.int (0 : Int32)), (.int p2), (.int p3), (.int p4), (.int p5)] 8 = mkF m 0 #[.val (.ref o0), .val (.int (0 : Int32)), .val (.int p2), .val (.int p3), .val (.int p4), .val (.int p5), .unset, .unset] [] := by first | (simp [entryFrame, mkF, argsToLocals, Value.category]; done) | rfl
set_option maxRecDepth 65536 in
set_option maxHeartbeats 40000000 in
theorem own_rm6_0 (l : Launch) (Z : State) (a0 : Array Value) (hw : ∀ d ∈ tables_1, d.before a0 Z = true) (ws : List Jvm.Cond) (o0 : Addr) (p2 : Int32) (p3 : Int32) (p4 : Int32) (p5 : Int32) (w_o0_revisions : Addr) (w_o0_lastWipeOut : Addr) (w_o0_lastRemoval : Addr) (w_o0_lastStrongRemoval : Addr) (w_o0_lastPosition : Addr) (k_w_o0_revisions : ClassId) (w_w_o0_revisions_0 : Int64) (w_w_o0_revisions_1 : Int64) (k_w_o0_lastWipeOut : ClassId) (w_w_o0_lastWipeOut_0 : Int64) (w_w_o0_lastWipeOut_1 : Int64) (k_w_o0_lastRemoval : ClassId) (w_w_o0_lastRemoval_0 : Int64) (w_w_o0_lastRemoval_1 : Int64) (k_w_o0_lastStrongRemoval : ClassId) (w_w_o0_lastStrongRemoval_0 : Int64) (w_w_o0_lastStrongRemoval_1 : Int64) (k_w_o0_lastPosition : ClassId) (w_w_o0_lastPosition_0 : Int32) (w_w_o0_lastPosition_1 : Int32) (h0 : Heap) (n0 : Nat) (Z0 : n0 ≤ h0.size) (E_o0 : Exa Z h0 o0 "com/example/arcwise/arcwise/adaptation/History") (F_o0_revisions : Fld Z h0 o0 "com/example/arcwise/arcwise/adaptation/History" "revisions" "[J" (.ref w_o0_revisions)) (F_o0_lastWipeOut : Fld Z h0 o0 "com/example/arcwise/arcwise/adaptation/History" "lastWipeOut" "[J" (.ref w_o0_lastWipeOut)) (F_o0_lastRemoval : Fld Z h0 o0 "com/example/arcwise/arcwise/adaptation/History" "lastRemoval" "[J" (.ref w_o0_lastRemoval)) (F_o0_lastStrongRemoval : Fld Z h0 o0 "com/example/arcwise/arcwise/adaptation/History" "lastStrongRemoval" "[J" (.ref w_o0_lastStrongRemoval)) (F_o0_lastPosition : Fld Z h0 o0 "com/example/arcwise/arcwise/adaptation/History" "lastPosition" "[I" (.ref w_o0_lastPosition)) (V_w_o0_revisions : Arv Z h0 w_o0_revisions k_w_o0_revisions .long (2 : Int32) [(.long w_w_o0_revisions_0), (.long w_w_o0_revisions_1)] (.long (0 : Int64))) (V_w_o0_lastWipeOut : Arv Z h0 w_o0_lastWipeOut k_w_o0_lastWipeOut .long (2 : Int32) [(.long w_w_o0_lastWipeOut_0), (.long w_w_o0_lastWipeOut_1)] (.long (0 : Int64))) (V_w_o0_lastRemoval : Arv Z h0 w_o0_lastRemoval k_w_o0_lastRemoval .long (2 : Int32) [(.long w_w_o0_lastRemoval_0), (.long w_w_o0_lastRemoval_1)] (.long (0 : Int64))) (V_w_o0_lastStrongRemoval : Arv Z h0 w_o0_lastStrongRemoval k_w_o0_lastStrongRemoval .long (2 : Int32) [(.long w_w_o0_lastStrongRemoval_0), (.long w_w_o0_lastStrongRemoval_1)] (.long (0 : Int64))) (V_w_o0_lastPosition : Arv Z h0 w_o0_lastPosition k_w_o0_lastPosition .int (2 : Int32) [(.int w_w_o0_lastPosition_0), (.int w_w_o0_lastPosition_1)] (.int (0 : Int32))) (ne_o0_w_o0_revisions : o0 ≠ w_o0_revisions) (ne_o0_w_o0_lastWipeOut : o0 ≠ w_o0_lastWipeOut) (ne_o0_w_o0_lastRemoval : o0 ≠ w_o0_lastRemoval) (ne_o0_w_o0_lastStrongRemoval : o0 ≠ w_o0_lastStrongRemoval) (ne_o0_w_o0_lastPosition : o0 ≠ w_o0_lastPosition) (ne_w_o0_revisions_w_o0_lastWipeOut : w_o0_revisions ≠ w_o0_lastWipeOut) (ne_w_o0_revisions_w_o0_lastRemoval : w_o0_revisions ≠ w_o0_lastRemoval) (ne_w_o0_revisions_w_o0_lastStrongRemoval : w_o0_revisions ≠ w_o0_lastStrongRemoval) (ne_w_o0_revisions_w_o0_lastPosition : w_o0_revisions ≠ w_o0_lastPosition) (ne_w_o0_lastWipeOut_w_o0_lastRemoval : w_o0_lastWipeOut ≠ w_o0_lastRemoval) (ne_w_o0_lastWipeOut_w_o0_lastStrongRemoval : w_o0_lastWipeOut ≠ w_o0_lastStrongRemoval) (ne_w_o0_lastWipeOut_w_o0_lastPosition : w_o0_lastWipeOut ≠ w_o0_lastPosition) (ne_w_o0_lastRemoval_w_o0_lastStrongRemoval : w_o0_lastRemoval ≠ w_o0_lastStrongRemoval) (ne_w_o0_lastRemoval_w_o0_lastPosition : w_o0_lastRemoval ≠ w_o0_lastPosition) (ne_w_o0_lastStrongRemoval_w_o0_lastPosition : w_o0_lastStrongRemoval ≠ w_o0_lastPosition) (g_w_o0_revisions : n0 ≤ w_o0_revisions) (g_w_o0_lastWipeOut : n0 ≤ w_o0_lastWipeOut) (g_w_o0_lastRemoval : n0 ≤ w_o0_lastRemoval) (g_w_o0_lastStrongRemoval : n0 ≤ w_o0_lastStrongRemoval) (g_w_o0_lastPosition : n0 ≤ w_o0_lastPosition) :
    MetFree l (⟨"com/example/arcwise/arcwise/adaptation/History", "revised", "(IIZZZ)V"⟩ : MethodName) (head1 (Jvm.Cond.code (⟨"com/example/arcwise/arcwise/adaptation/History", "revised", "(IIZZZ)V"⟩ : MethodName) prog_2_method_2_code 8 none :: ws) ({ frames := 0, cells := 0, slots := 0, locals := 0 } : Room)) (fun a U => a = #[(.ref o0), (.int (0 : Int32)), (.int p2), (.int p3), (.int p4), (.int p5)] ∧ Z.Warmed39 U.vm ∧ U.heap = h0) (fun _ _ _ _ _ => True) (fun _ U o U' => ∃ v L, o = .returned v ∧ own_Q6_0 Z o0 p2 p3 p4 p5 w_o0_revisions w_o0_lastWipeOut w_o0_lastRemoval w_o0_lastStrongRemoval w_o0_lastPosition k_w_o0_revisions w_w_o0_revisions_0 w_w_o0_revisions_1 k_w_o0_lastWipeOut w_w_o0_lastWipeOut_0 w_w_o0_lastWipeOut_1 k_w_o0_lastRemoval w_w_o0_lastRemoval_0 w_w_o0_lastRemoval_1 k_w_o0_lastStrongRemoval w_w_o0_lastStrongRemoval_0 w_w_o0_lastStrongRemoval_1 k_w_o0_lastPosition w_w_o0_lastPosition_0 w_w_o0_lastPosition_1 h0 n0 v U'.heap L ∧ FrameEnd U o U' L ({ frames := 0, cells := 0, slots := 0, locals := 0 } : Room).cells ({ frames := 0, cells := 0, slots := 0, locals := 0 } : Room).slots) := by
  refine MetFree.of_bodySF (plainFor_of_name own_pn_rm6_0) hisR ?_
  intro p e s m args below meth c s₁ Bd hml0 hP hK
  obtain ⟨rfl, hZ, hh⟩ := hP
  have hx := Bd.exec
  have hby := Bd.bytes
  have hml : c.maxLocals = 8 := hml0
  have hown : s.vm.findClass "com/example/arcwise/arcwise/adaptation/History" = some m.cls := findClass_of_methodNamed Bd.named
  have hnm := (name_of_methodNamed Bd.named Bd.method).1
  have X0 : Stand p l e ({ frames := 0, cells := 0, slots := 0, locals := 0 } : Room) s m #[(.ref o0), (.int (0 : Int32)), (.int p2), (.int p3), (.int p4), (.int p5)] below meth c s₁ [] 0 0 := Stand.of_body Bd
  have e0 : s₁.heap = h0 := by rw [← hh, Bd.state]; rfl
  have N0 := Fr.nil n0
  show own_End p e below s (own_Q6_0 Z o0 p2 p3 p4 p5 w_o0_revisions w_o0_lastWipeOut w_o0_lastRemoval w_o0_lastStrongRemoval w_o0_lastPosition k_w_o0_revisions w_w_o0_revisions_0 w_w_o0_revisions_1 k_w_o0_lastWipeOut w_w_o0_lastWipeOut_0 w_w_o0_lastWipeOut_1 k_w_o0_lastRemoval w_w_o0_lastRemoval_0 w_w_o0_lastRemoval_1 k_w_o0_lastStrongRemoval w_w_o0_lastStrongRemoval_0 w_w_o0_lastStrongRemoval_1 k_w_o0_lastPosition w_w_o0_lastPosition_0 w_w_o0_lastPosition_1 h0 n0) ({ frames := 0, cells := 0, slots := 0, locals := 0 } : Room).cells ({ frames := 0, cells := 0, slots := 0, locals := 0 } : Room).slots (s₁.setTop (entryFrame m #[(.ref o0), (.int (0 : Int32)), (.int p2), (.int p3), (.int p4), (.int p5)] 8))
  rw [own_ef_rm6_0]
  refine own_aloadN X0 hx (hb hby own_d6_0) rfl rfl (q := 1) rfl ?_
  obtain ⟨T193, X193, e193, st193⟩ := getF X0 hx hZ hown (host := "") (Or.inl (hw _ (List.mem_of_getElem? (i := 14) rfl))) Via.refl e0 F_o0_revisions (g := (mkF m 1 #[.val (.ref o0), .val (.int (0 : Int32)), .val (.int p2), .val (.int p3), .val (.int p4), .val (.int p5), .unset, .unset] [(.ref o0)])) rfl rfl (hb hby own_d6_1)
  refine own_back st193 ?_
  show own_End p e below s _ _ _ (T193.setTop (mkF m 4 #[.val (.ref o0), .val (.int (0 : Int32)), .val (.int p2), .val (.int p3), .val (.int p4), .val (.int p5), .unset, .unset] [(.ref w_o0_revisions)]))
  refine own_iloadN X193 hx (hb hby own_d6_4) rfl (q := 5) rfl ?_
  refine own_back (fun _ k => ?_) (b := T193.setTop (mkF m 6 #[.val (.ref o0), .val (.int (0 : Int32)), .val (.int p2), .val (.int p3), .val (.int p4), .val (.int p5), .unset, .unset] [(.int (0 : Int32)), (.ref w_o0_revisions), (.int (0 : Int32)), (.ref w_o0_revisions)])) ?_
  · jvm_step X193.here [X193.here.top, hx, (hb hby own_d6_5), Value.category]
    exact k
  obtain ⟨cl194, Ar194, q194, S194, N194v, H194, G194⟩ := id V_w_o0_revisions
  have hin194 : ¬ ((0 : Int32) < 0 ∨ cl194.slots.size ≤ ((0 : Int32)).toNatClampNeg) := inb_of S194 ⟨by decide, by decide⟩
  refine own_back (X193.laload hx (j := (0 : Int32)) (v := (.long w_w_o0_revisions_0)) (by rw [e193]; exact Ar194.1) (State.isArrayOf_alike hZ.alike Ar194.2.1) Ar194.2.2 hin194 (Has.at H194 hin194 rfl) (g := (mkF m 6 #[.val (.ref o0), .val (.int (0 : Int32)), .val (.int p2), .val (.int p3), .val (.int p4), .val (.int p5), .unset, .unset] [(.int (0 : Int32)), (.ref w_o0_revisions), (.int (0 : Int32)), (.ref w_o0_revisions)])) rfl rfl (hb hby own_d6_6)) ?_
  show own_End p e below s _ _ _ (T193.setTop (mkF m 7 #[.val (.ref o0), .val (.int (0 : Int32)), .val (.int p2), .val (.int p3), .val (.int p4), .val (.int p5), .unset, .unset] [(.long w_w_o0_revisions_0), (.int (0 : Int32)), (.ref w_o0_revisions)]))
  refine own_lconst X193 hx (hb hby own_d6_7) (z := 1) rfl (q := 8) rfl ?_
  refine own_ladd X193 hx (hb hby own_d6_8) (q := 9) rfl ?_
  refine own_back (fun _ k => ?_) (b := T193.setTop (mkF m 10 #[.val (.ref o0), .val (.int (0 : Int32)), .val (.int p2), .val (.int p3), .val (.int p4), .val (.int p5), .unset, .unset] [(.long (w_w_o0_revisions_0 + (1 : Int64))), (.int (0 : Int32)), (.ref w_o0_revisions), (.long (w_w_o0_revisions_0 + (1 : Int64)))])) ?_
  · jvm_step X193.here [X193.here.top, hx, (hb hby own_d6_9), Value.category]
    exact k
  obtain ⟨cl195, Ar195, q195, S195, N195v, H195, G195⟩ := id V_w_o0_revisions
  have hin195 : ¬ ((0 : Int32) < 0 ∨ cl195.slots.size ≤ ((0 : Int32)).toNatClampNeg) := inb_of S195 ⟨by decide, by decide⟩
  obtain ⟨T195, h195, X195, e195, W195, st195⟩ := stJ X193 hx hZ e193 Ar195 (j := (0 : Int32)) hin195 (g := (mkF m 10 #[.val (.ref o0), .val (.int (0 : Int32)), .val (.int p2), .val (.int p3), .val (.int p4), .val (.int p5), .unset, .unset] [(.long (w_w_o0_revisions_0 + (1 : Int64))), (.int (0 : Int32)), (.ref w_o0_revisions), (.long (w_w_o0_revisions_0 + (1 : Int64)))])) rfl rfl (hb hby own_d6_10)
  have V_w_o0_revisions_195 : Arv Z h195 w_o0_revisions k_w_o0_revisions .long (2 : Int32) [(.long (w_w_o0_revisions_0 + (1 : Int64))), (.long w_w_o0_revisions_1)] (.long (0 : Int64)) := Arv.set Ar195 q195 S195 N195v H195 G195 rfl W195 0 rfl (Nat.le_of_ble_eq_true rfl)
  have E_o0_196 := E_o0.wr W195
  have F_o0_revisions_197 := F_o0_revisions.other W195 (Or.inl ne_o0_w_o0_revisions)
  have F_o0_lastWipeOut_198 := F_o0_lastWipeOut.other W195 (Or.inl ne_o0_w_o0_revisions)
  have F_o0_lastRemoval_199 := F_o0_lastRemoval.other W195 (Or.inl ne_o0_w_o0_revisions)
  have F_o0_lastStrongRemoval_200 := F_o0_lastStrongRemoval.other W195 (Or.inl ne_o0_w_o0_revisions)
  have F_o0_lastPosition_201 := F_o0_lastPosition.other W195 (Or.inl ne_o0_w_o0_revisions)
  have V_w_o0_lastWipeOut_202 := V_w_o0_lastWipeOut.other W195 (Ne.symm ne_w_o0_revisions_w_o0_lastWipeOut)
  have V_w_o0_lastRemoval_203 := V_w_o0_lastRemoval.other W195 (Ne.symm ne_w_o0_revisions_w_o0_lastRemoval)
  have V_w_o0_lastStrongRemoval_204 := V_w_o0_lastStrongRemoval.other W195 (Ne.symm ne_w_o0_revisions_w_o0_lastStrongRemoval)
  have V_w_o0_lastPosition_205 := V_w_o0_lastPosition.other W195 (Ne.symm ne_w_o0_revisions_w_o0_lastPosition)
  have Kp206 : Keep h0 _ [w_o0_revisions, w_o0_lastWipeOut, w_o0_lastRemoval, w_o0_lastStrongRemoval, w_o0_lastPosition] := (Keep.refl h0 [w_o0_revisions, w_o0_lastWipeOut, w_o0_lastRemoval, w_o0_lastStrongRemoval, w_o0_lastPosition]).wr W195 (Or.inl (List.mem_of_getElem? (i := 0) rfl))
  have Z207 := Nat.le_trans Z0 (Keep.of_wr W195).1
  obtain ⟨L195, X195, N195⟩ := own_gl X195 (Fr.snoc X195 N0 g_w_o0_revisions)
  refine own_back st195 ?_
  show own_End p e below s _ _ _ (T195.setTop (mkF m 11 #[.val (.ref o0), .val (.int (0 : Int32)), .val (.int p2), .val (.int p3), .val (.int p4), .val (.int p5), .unset, .unset] [(.long (w_w_o0_revisions_0 + (1 : Int64)))]))
  refine own_lstore X195 hx (hb hby own_d6_11) (l' := #[.val (.ref o0), .val (.int (0 : Int32)), .val (.int p2), .val (.int p3), .val (.int p4), .val (.int p5), .val (.long (w_w_o0_revisions_0 + (1 : Int64))), .second]) rfl (q := 13) rfl ?_
  refine own_aloadN X195 hx (hb hby own_d6_13) rfl rfl (q := 14) rfl ?_
  obtain ⟨T208, X208, e208, st208⟩ := getF X195 hx hZ hown (host := "") (Or.inl (hw _ (List.mem_of_getElem? (i := 23) rfl))) Via.refl e195 F_o0_lastPosition_201 (g := (mkF m 14 #[.val (.ref o0), .val (.int (0 : Int32)), .val (.int p2), .val (.int p3), .val (.int p4), .val (.int p5), .val (.long (w_w_o0_revisions_0 + (1 : Int64))), .second] [(.ref o0)])) rfl rfl (hb hby own_d6_14)
  refine own_back st208 ?_
  show own_End p e below s _ _ _ (T208.setTop (mkF m 17 #[.val (.ref o0), .val (.int (0 : Int32)), .val (.int p2), .val (.int p3), .val (.int p4), .val (.int p5), .val (.long (w_w_o0_revisions_0 + (1 : Int64))), .second] [(.ref w_o0_lastPosition)]))
  refine own_iloadN X208 hx (hb hby own_d6_17) rfl (q := 18) rfl ?_
  refine own_iloadN X208 hx (hb hby own_d6_18) rfl (q := 19) rfl ?_
  obtain ⟨cl209, Ar209, q209, S209, N209v, H209, G209⟩ := id V_w_o0_lastPosition_205
  have hin209 : ¬ ((0 : Int32) < 0 ∨ cl209.slots.size ≤ ((0 : Int32)).toNatClampNeg) := inb_of S209 ⟨by decide, by decide⟩
  obtain ⟨T209, h209, X209, e209, W209, st209⟩ := stI X208 hx hZ e208 Ar209 (j := (0 : Int32)) hin209 (g := (mkF m 19 #[.val (.ref o0), .val (.int (0 : Int32)), .val (.int p2), .val (.int p3), .val (.int p4), .val (.int p5), .val (.long (w_w_o0_revisions_0 + (1 : Int64))), .second] [(.int p2), (.int (0 : Int32)), (.ref w_o0_lastPosition)])) rfl rfl (hb hby own_d6_19)
  have V_w_o0_lastPosition_209 : Arv Z h209 w_o0_lastPosition k_w_o0_lastPosition .int (2 : Int32) [(.int p2), (.int w_w_o0_lastPosition_1)] (.int (0 : Int32)) := Arv.set Ar209 q209 S209 N209v H209 G209 rfl W209 0 rfl (Nat.le_of_ble_eq_true rfl)
  have E_o0_210 := E_o0_196.wr W209
  have F_o0_revisions_211 := F_o0_revisions_197.other W209 (Or.inl ne_o0_w_o0_lastPosition)
  have F_o0_lastWipeOut_212 := F_o0_lastWipeOut_198.other W209 (Or.inl ne_o0_w_o0_lastPosition)
  have F_o0_lastRemoval_213 := F_o0_lastRemoval_199.other W209 (Or.inl ne_o0_w_o0_lastPosition)
  have F_o0_lastStrongRemoval_214 := F_o0_lastStrongRemoval_200.other W209 (Or.inl ne_o0_w_o0_lastPosition)
  have F_o0_lastPosition_215 := F_o0_lastPosition_201.other W209 (Or.inl ne_o0_w_o0_lastPosition)
  have V_w_o0_revisions_216 := V_w_o0_revisions_195.other W209 ne_w_o0_revisions_w_o0_lastPosition
  have V_w_o0_lastWipeOut_217 := V_w_o0_lastWipeOut_202.other W209 ne_w_o0_lastWipeOut_w_o0_lastPosition
  have V_w_o0_lastRemoval_218 := V_w_o0_lastRemoval_203.other W209 ne_w_o0_lastRemoval_w_o0_lastPosition
  have V_w_o0_lastStrongRemoval_219 := V_w_o0_lastStrongRemoval_204.other W209 ne_w_o0_lastStrongRemoval_w_o0_lastPosition
  have Kp220 : Keep h0 _ [w_o0_revisions, w_o0_lastWipeOut, w_o0_lastRemoval, w_o0_lastStrongRemoval, w_o0_lastPosition] := Kp206.wr W209 (Or.inl (List.mem_of_getElem? (i := 4) rfl))
  have Z221 := Nat.le_trans Z207 (Keep.of_wr W209).1
  obtain ⟨L209, X209, N209⟩ := own_gl X209 (Fr.snoc X209 N195 g_w_o0_lastPosition)
  refine own_back st209 ?_
  show own_End p e below s _ _ _ (T209.setTop (mkF m 20 #[.val (.ref o0), .val (.int (0 : Int32)), .val (.int p2), .val (.int p3), .val (.int p4), .val (.int p5), .val (.long (w_w_o0_revisions_0 + (1 : Int64))), .second] []))
  refine own_iloadN X209 hx (hb hby own_d6_20) rfl (q := 21) rfl ?_
  by_cases hc21_222 : p3 = (0 : Int32)
  · refine own_ifY X209 hx (hb hby own_d6_21) (teq hc21_222).1 (q := 32) (by decide) (by decide) ?_
    refine own_iload X209 hx (hb hby own_d6_32) rfl (q := 34) rfl ?_
    by_cases hc34_223 : p4 = (0 : Int32)
    · refine own_ifY X209 hx (hb hby own_d6_34) (teq hc34_223).1 (q := 45) (by decide) (by decide) ?_
      refine own_iload X209 hx (hb hby own_d6_45) rfl (q := 47) rfl ?_
      refine own_ifN X209 hx (hb hby own_d6_47) (teq hc34_223).2 (q := 50) rfl ?_
      refine own_iload X209 hx (hb hby own_d6_50) rfl (q := 52) rfl ?_
      by_cases hc52_224 : p5 = (0 : Int32)
      · refine own_ifY X209 hx (hb hby own_d6_52) (teq hc52_224).1 (q := 63) (by decide) (by decide) ?_
        refine own_retV X209 hx Bd.returns Bd.notSynchronized (by decide) (by decide) (hb hby own_d6_63) ?_
        show own_Q6_0 Z o0 p2 p3 p4 p5 w_o0_revisions w_o0_lastWipeOut w_o0_lastRemoval w_o0_lastStrongRemoval w_o0_lastPosition k_w_o0_revisions w_w_o0_revisions_0 w_w_o0_revisions_1 k_w_o0_lastWipeOut w_w_o0_lastWipeOut_0 w_w_o0_lastWipeOut_1 k_w_o0_lastRemoval w_w_o0_lastRemoval_0 w_w_o0_lastRemoval_1 k_w_o0_lastStrongRemoval w_w_o0_lastStrongRemoval_0 w_w_o0_lastStrongRemoval_1 k_w_o0_lastPosition w_w_o0_lastPosition_0 w_w_o0_lastPosition_1 h0 n0 _ T209.heap _
        rw [e209]
        exact ⟨rfl, N209, Kp220, V_w_o0_revisions_216, (by have q := V_w_o0_lastWipeOut_217; simp only [own_G6_0_w_o0_lastWipeOut_0, if_pos hc21_222, if_pos hc34_223, if_pos hc52_224]; exact q), (by have q := V_w_o0_lastRemoval_218; simp only [own_G6_0_w_o0_lastRemoval_0, if_pos hc21_222, if_pos hc34_223, if_pos hc52_224]; exact q), (by have q := V_w_o0_lastStrongRemoval_219; simp only [own_G6_0_w_o0_lastStrongRemoval_0, if_pos hc21_222, if_pos hc34_223, if_pos hc52_224]; exact q), V_w_o0_lastPosition_209⟩
      · refine own_ifN X209 hx (hb hby own_d6_52) (feq hc52_224).1 (q := 55) rfl ?_
        refine own_aloadN X209 hx (hb hby own_d6_55) rfl rfl (q := 56) rfl ?_
        obtain ⟨T226, X226, e226, st226⟩ := getF X209 hx hZ hown (host := "") (Or.inl (hw _ (List.mem_of_getElem? (i := 20) rfl))) Via.refl e209 F_o0_lastStrongRemoval_214 (g := (mkF m 56 #[.val (.ref o0), .val (.int (0 : Int32)), .val (.int p2), .val (.int p3), .val (.int p4), .val (.int p5), .val (.long (w_w_o0_revisions_0 + (1 : Int64))), .second] [(.ref o0)])) rfl rfl (hb hby own_d6_56)
        refine own_back st226 ?_
        show own_End p e below s _ _ _ (T226.setTop (mkF m 59 #[.val (.ref o0), .val (.int (0 : Int32)), .val (.int p2), .val (.int p3), .val (.int p4), .val (.int p5), .val (.long (w_w_o0_revisions_0 + (1 : Int64))), .second] [(.ref w_o0_lastStrongRemoval)]))
        refine own_iloadN X226 hx (hb hby own_d6_59) rfl (q := 60) rfl ?_
        refine own_lload X226 hx (hb hby own_d6_60) rfl (q := 62) rfl ?_
        obtain ⟨cl227, Ar227, q227, S227, N227v, H227, G227⟩ := id V_w_o0_lastStrongRemoval_219
        have hin227 : ¬ ((0 : Int32) < 0 ∨ cl227.slots.size ≤ ((0 : Int32)).toNatClampNeg) := inb_of S227 ⟨by decide, by decide⟩
        obtain ⟨T227, h227, X227, e227, W227, st227⟩ := stJ X226 hx hZ e226 Ar227 (j := (0 : Int32)) hin227 (g := (mkF m 62 #[.val (.ref o0), .val (.int (0 : Int32)), .val (.int p2), .val (.int p3), .val (.int p4), .val (.int p5), .val (.long (w_w_o0_revisions_0 + (1 : Int64))), .second] [(.long (w_w_o0_revisions_0 + (1 : Int64))), (.int (0 : Int32)), (.ref w_o0_lastStrongRemoval)])) rfl rfl (hb hby own_d6_62)
        have V_w_o0_lastStrongRemoval_227 : Arv Z h227 w_o0_lastStrongRemoval k_w_o0_lastStrongRemoval .long (2 : Int32) [(.long (w_w_o0_revisions_0 + (1 : Int64))), (.long w_w_o0_lastStrongRemoval_1)] (.long (0 : Int64)) := Arv.set Ar227 q227 S227 N227v H227 G227 rfl W227 0 rfl (Nat.le_of_ble_eq_true rfl)
        have E_o0_228 := E_o0_210.wr W227
        have F_o0_revisions_229 := F_o0_revisions_211.other W227 (Or.inl ne_o0_w_o0_lastStrongRemoval)
        have F_o0_lastWipeOut_230 := F_o0_lastWipeOut_212.other W227 (Or.inl ne_o0_w_o0_lastStrongRemoval)
        have F_o0_lastRemoval_231 := F_o0_lastRemoval_213.other W227 (Or.inl ne_o0_w_o0_lastStrongRemoval)
        have F_o0_lastStrongRemoval_232 := F_o0_lastStrongRemoval_214.other W227 (Or.inl ne_o0_w_o0_lastStrongRemoval)
        have F_o0_lastPosition_233 := F_o0_lastPosition_215.other W227 (Or.inl ne_o0_w_o0_lastStrongRemoval)
        have V_w_o0_revisions_234 := V_w_o0_revisions_216.other W227 ne_w_o0_revisions_w_o0_lastStrongRemoval
        have V_w_o0_lastWipeOut_235 := V_w_o0_lastWipeOut_217.other W227 ne_w_o0_lastWipeOut_w_o0_lastStrongRemoval
        have V_w_o0_lastRemoval_236 := V_w_o0_lastRemoval_218.other W227 ne_w_o0_lastRemoval_w_o0_lastStrongRemoval
        have V_w_o0_lastPosition_237 := V_w_o0_lastPosition_209.other W227 (Ne.symm ne_w_o0_lastStrongRemoval_w_o0_lastPosition)
        have Kp238 : Keep h0 _ [w_o0_revisions, w_o0_lastWipeOut, w_o0_lastRemoval, w_o0_lastStrongRemoval, w_o0_lastPosition] := Kp220.wr W227 (Or.inl (List.mem_of_getElem? (i := 3) rfl))
        have Z239 := Nat.le_trans Z221 (Keep.of_wr W227).1
        obtain ⟨L227, X227, N227⟩ := own_gl X227 (Fr.snoc X227 N209 g_w_o0_lastStrongRemoval)
        refine own_back st227 ?_
        show own_End p e below s _ _ _ (T227.setTop (mkF m 63 #[.val (.ref o0), .val (.int (0 : Int32)), .val (.int p2), .val (.int p3), .val (.int p4), .val (.int p5), .val (.long (w_w_o0_revisions_0 + (1 : Int64))), .second] []))
        refine own_retV X227 hx Bd.returns Bd.notSynchronized (by decide) (by decide) (hb hby own_d6_63) ?_
        show own_Q6_0 Z o0 p2 p3 p4 p5 w_o0_revisions w_o0_lastWipeOut w_o0_lastRemoval w_o0_lastStrongRemoval w_o0_lastPosition k_w_o0_revisions w_w_o0_revisions_0 w_w_o0_revisions_1 k_w_o0_lastWipeOut w_w_o0_lastWipeOut_0 w_w_o0_lastWipeOut_1 k_w_o0_lastRemoval w_w_o0_lastRemoval_0 w_w_o0_lastRemoval_1 k_w_o0_lastStrongRemoval w_w_o0_lastStrongRemoval_0 w_w_o0_lastStrongRemoval_1 k_w_o0_lastPosition w_w_o0_lastPosition_0 w_w_o0_lastPosition_1 h0 n0 _ T227.heap _
        rw [e227]
        exact ⟨rfl, N227, Kp238, V_w_o0_revisions_234, (by have q := V_w_o0_lastWipeOut_235; simp only [own_G6_0_w_o0_lastWipeOut_0, if_pos hc21_222, if_pos hc34_223, if_neg hc52_224]; exact q), (by have q := V_w_o0_lastRemoval_236; simp only [own_G6_0_w_o0_lastRemoval_0, if_pos hc21_222, if_pos hc34_223, if_neg hc52_224]; exact q), (by have q := V_w_o0_lastStrongRemoval_227; simp only [own_G6_0_w_o0_lastStrongRemoval_0, if_pos hc21_222, if_pos hc34_223, if_neg hc52_224]; exact q), V_w_o0_lastPosition_237⟩
    · refine own_ifN X209 hx (hb hby own_d6_34) (feq hc34_223).1 (q := 37) rfl ?_
      refine own_aloadN X209 hx (hb hby own_d6_37) rfl rfl (q := 38) rfl ?_
      obtain ⟨T241, X241, e241, st241⟩ := getF X209 hx hZ hown (host := "") (Or.inl (hw _ (List.mem_of_getElem? (i := 16) rfl))) Via.refl e209 F_o0_lastWipeOut_212 (g := (mkF m 38 #[.val (.ref o0), .val (.int (0 : Int32)), .val (.int p2), .val (.int p3), .val (.int p4), .val (.int p5), .val (.long (w_w_o0_revisions_0 + (1 : Int64))), .second] [(.ref o0)])) rfl rfl (hb hby own_d6_38)
      refine own_back st241 ?_
      show own_End p e below s _ _ _ (T241.setTop (mkF m 41 #[.val (.ref o0), .val (.int (0 : Int32)), .val (.int p2), .val (.int p3), .val (.int p4), .val (.int p5), .val (.long (w_w_o0_revisions_0 + (1 : Int64))), .second] [(.ref w_o0_lastWipeOut)]))
      refine own_iloadN X241 hx (hb hby own_d6_41) rfl (q := 42) rfl ?_
      refine own_lload X241 hx (hb hby own_d6_42) rfl (q := 44) rfl ?_
      obtain ⟨cl242, Ar242, q242, S242, N242v, H242, G242⟩ := id V_w_o0_lastWipeOut_217
      have hin242 : ¬ ((0 : Int32) < 0 ∨ cl242.slots.size ≤ ((0 : Int32)).toNatClampNeg) := inb_of S242 ⟨by decide, by decide⟩
      obtain ⟨T242, h242, X242, e242, W242, st242⟩ := stJ X241 hx hZ e241 Ar242 (j := (0 : Int32)) hin242 (g := (mkF m 44 #[.val (.ref o0), .val (.int (0 : Int32)), .val (.int p2), .val (.int p3), .val (.int p4), .val (.int p5), .val (.long (w_w_o0_revisions_0 + (1 : Int64))), .second] [(.long (w_w_o0_revisions_0 + (1 : Int64))), (.int (0 : Int32)), (.ref w_o0_lastWipeOut)])) rfl rfl (hb hby own_d6_44)
      have V_w_o0_lastWipeOut_242 : Arv Z h242 w_o0_lastWipeOut k_w_o0_lastWipeOut .long (2 : Int32) [(.long (w_w_o0_revisions_0 + (1 : Int64))), (.long w_w_o0_lastWipeOut_1)] (.long (0 : Int64)) := Arv.set Ar242 q242 S242 N242v H242 G242 rfl W242 0 rfl (Nat.le_of_ble_eq_true rfl)
      have E_o0_243 := E_o0_210.wr W242
      have F_o0_revisions_244 := F_o0_revisions_211.other W242 (Or.inl ne_o0_w_o0_lastWipeOut)
      have F_o0_lastWipeOut_245 := F_o0_lastWipeOut_212.other W242 (Or.inl ne_o0_w_o0_lastWipeOut)
      have F_o0_lastRemoval_246 := F_o0_lastRemoval_213.other W242 (Or.inl ne_o0_w_o0_lastWipeOut)
      have F_o0_lastStrongRemoval_247 := F_o0_lastStrongRemoval_214.other W242 (Or.inl ne_o0_w_o0_lastWipeOut)
      have F_o0_lastPosition_248 := F_o0_lastPosition_215.other W242 (Or.inl ne_o0_w_o0_lastWipeOut)
      have V_w_o0_revisions_249 := V_w_o0_revisions_216.other W242 ne_w_o0_revisions_w_o0_lastWipeOut
      have V_w_o0_lastRemoval_250 := V_w_o0_lastRemoval_218.other W242 (Ne.symm ne_w_o0_lastWipeOut_w_o0_lastRemoval)
      have V_w_o0_lastStrongRemoval_251 := V_w_o0_lastStrongRemoval_219.other W242 (Ne.symm ne_w_o0_lastWipeOut_w_o0_lastStrongRemoval)
      have V_w_o0_lastPosition_252 := V_w_o0_lastPosition_209.other W242 (Ne.symm ne_w_o0_lastWipeOut_w_o0_lastPosition)
      have Kp253 : Keep h0 _ [w_o0_revisions, w_o0_lastWipeOut, w_o0_lastRemoval, w_o0_lastStrongRemoval, w_o0_lastPosition] := Kp220.wr W242 (Or.inl (List.mem_of_getElem? (i := 1) rfl))
      have Z254 := Nat.le_trans Z221 (Keep.of_wr W242).1
      obtain ⟨L242, X242, N242⟩ := own_gl X242 (Fr.snoc X242 N209 g_w_o0_lastWipeOut)
      refine own_back st242 ?_
      show own_End p e below s _ _ _ (T242.setTop (mkF m 45 #[.val (.ref o0), .val (.int (0 : Int32)), .val (.int p2), .val (.int p3), .val (.int p4), .val (.int p5), .val (.long (w_w_o0_revisions_0 + (1 : Int64))), .second] []))
      refine own_iload X242 hx (hb hby own_d6_45) rfl (q := 47) rfl ?_
      refine own_ifY X242 hx (hb hby own_d6_47) (feq hc34_223).2 (q := 55) (by decide) (by decide) ?_
      refine own_aloadN X242 hx (hb hby own_d6_55) rfl rfl (q := 56) rfl ?_
      obtain ⟨T255, X255, e255, st255⟩ := getF X242 hx hZ hown (host := "") (Or.inl (hw _ (List.mem_of_getElem? (i := 20) rfl))) Via.refl e242 F_o0_lastStrongRemoval_247 (g := (mkF m 56 #[.val (.ref o0), .val (.int (0 : Int32)), .val (.int p2), .val (.int p3), .val (.int p4), .val (.int p5), .val (.long (w_w_o0_revisions_0 + (1 : Int64))), .second] [(.ref o0)])) rfl rfl (hb hby own_d6_56)
      refine own_back st255 ?_
      show own_End p e below s _ _ _ (T255.setTop (mkF m 59 #[.val (.ref o0), .val (.int (0 : Int32)), .val (.int p2), .val (.int p3), .val (.int p4), .val (.int p5), .val (.long (w_w_o0_revisions_0 + (1 : Int64))), .second] [(.ref w_o0_lastStrongRemoval)]))
      refine own_iloadN X255 hx (hb hby own_d6_59) rfl (q := 60) rfl ?_
      refine own_lload X255 hx (hb hby own_d6_60) rfl (q := 62) rfl ?_
      obtain ⟨cl256, Ar256, q256, S256, N256v, H256, G256⟩ := id V_w_o0_lastStrongRemoval_251
      have hin256 : ¬ ((0 : Int32) < 0 ∨ cl256.slots.size ≤ ((0 : Int32)).toNatClampNeg) := inb_of S256 ⟨by decide, by decide⟩
      obtain ⟨T256, h256, X256, e256, W256, st256⟩ := stJ X255 hx hZ e255 Ar256 (j := (0 : Int32)) hin256 (g := (mkF m 62 #[.val (.ref o0), .val (.int (0 : Int32)), .val (.int p2), .val (.int p3), .val (.int p4), .val (.int p5), .val (.long (w_w_o0_revisions_0 + (1 : Int64))), .second] [(.long (w_w_o0_revisions_0 + (1 : Int64))), (.int (0 : Int32)), (.ref w_o0_lastStrongRemoval)])) rfl rfl (hb hby own_d6_62)
      have V_w_o0_lastStrongRemoval_256 : Arv Z h256 w_o0_lastStrongRemoval k_w_o0_lastStrongRemoval .long (2 : Int32) [(.long (w_w_o0_revisions_0 + (1 : Int64))), (.long w_w_o0_lastStrongRemoval_1)] (.long (0 : Int64)) := Arv.set Ar256 q256 S256 N256v H256 G256 rfl W256 0 rfl (Nat.le_of_ble_eq_true rfl)
      have E_o0_257 := E_o0_243.wr W256
      have F_o0_revisions_258 := F_o0_revisions_244.other W256 (Or.inl ne_o0_w_o0_lastStrongRemoval)
      have F_o0_lastWipeOut_259 := F_o0_lastWipeOut_245.other W256 (Or.inl ne_o0_w_o0_lastStrongRemoval)
      have F_o0_lastRemoval_260 := F_o0_lastRemoval_246.other W256 (Or.inl ne_o0_w_o0_lastStrongRemoval)
      have F_o0_lastStrongRemoval_261 := F_o0_lastStrongRemoval_247.other W256 (Or.inl ne_o0_w_o0_lastStrongRemoval)
      have F_o0_lastPosition_262 := F_o0_lastPosition_248.other W256 (Or.inl ne_o0_w_o0_lastStrongRemoval)
      have V_w_o0_revisions_263 := V_w_o0_revisions_249.other W256 ne_w_o0_revisions_w_o0_lastStrongRemoval
      have V_w_o0_lastWipeOut_264 := V_w_o0_lastWipeOut_242.other W256 ne_w_o0_lastWipeOut_w_o0_lastStrongRemoval
      have V_w_o0_lastRemoval_265 := V_w_o0_lastRemoval_250.other W256 ne_w_o0_lastRemoval_w_o0_lastStrongRemoval
      have V_w_o0_lastPosition_266 := V_w_o0_lastPosition_252.other W256 (Ne.symm ne_w_o0_lastStrongRemoval_w_o0_lastPosition)
      have Kp267 : Keep h0 _ [w_o0_revisions, w_o0_lastWipeOut, w_o0_lastRemoval, w_o0_lastStrongRemoval, w_o0_lastPosition] := Kp253.wr W256 (Or.inl (List.mem_of_getElem? (i := 3) rfl))
      have Z268 := Nat.le_trans Z254 (Keep.of_wr W256).1
      obtain ⟨L256, X256, N256⟩ := own_gl X256 (Fr.snoc X256 N242 g_w_o0_lastStrongRemoval)
      refine own_back st256 ?_
      show own_End p e below s _ _ _ (T256.setTop (mkF m 63 #[.val (.ref o0), .val (.int (0 : Int32)), .val (.int p2), .val (.int p3), .val (.int p4), .val (.int p5), .val (.long (w_w_o0_revisions_0 + (1 : Int64))), .second] []))
      refine own_retV X256 hx Bd.returns Bd.notSynchronized (by decide) (by decide) (hb hby own_d6_63) ?_
      show own_Q6_0 Z o0 p2 p3 p4 p5 w_o0_revisions w_o0_lastWipeOut w_o0_lastRemoval w_o0_lastStrongRemoval w_o0_lastPosition k_w_o0_revisions w_w_o0_revisions_0 w_w_o0_revisions_1 k_w_o0_lastWipeOut w_w_o0_lastWipeOut_0 w_w_o0_lastWipeOut_1 k_w_o0_lastRemoval w_w_o0_lastRemoval_0 w_w_o0_lastRemoval_1 k_w_o0_lastStrongRemoval w_w_o0_lastStrongRemoval_0 w_w_o0_lastStrongRemoval_1 k_w_o0_lastPosition w_w_o0_lastPosition_0 w_w_o0_lastPosition_1 h0 n0 _ T256.heap _
      rw [e256]
      exact ⟨rfl, N256, Kp267, V_w_o0_revisions_263, (by have q := V_w_o0_lastWipeOut_264; simp only [own_G6_0_w_o0_lastWipeOut_0, if_pos hc21_222, if_neg hc34_223]; exact q), (by have q := V_w_o0_lastRemoval_265; simp only [own_G6_0_w_o0_lastRemoval_0, if_pos hc21_222, if_neg hc34_223]; exact q), (by have q := V_w_o0_lastStrongRemoval_256; simp only [own_G6_0_w_o0_lastStrongRemoval_0, if_pos hc21_222, if_neg hc34_223]; exact q), V_w_o0_lastPosition_266⟩
  · refine own_ifN X209 hx (hb hby own_d6_21) (feq hc21_222).1 (q := 24) rfl ?_
    refine own_aloadN X209 hx (hb hby own_d6_24) rfl rfl (q := 25) rfl ?_
    obtain ⟨T270, X270, e270, st270⟩ := getF X209 hx hZ hown (host := "") (Or.inl (hw _ (List.mem_of_getElem? (i := 18) rfl))) Via.refl e209 F_o0_lastRemoval_213 (g := (mkF m 25 #[.val (.ref o0), .val (.int (0 : Int32)), .val (.int p2), .val (.int p3), .val (.int p4), .val (.int p5), .val (.long (w_w_o0_revisions_0 + (1 : Int64))), .second] [(.ref o0)])) rfl rfl (hb hby own_d6_25)
    refine own_back st270 ?_
    show own_End p e below s _ _ _ (T270.setTop (mkF m 28 #[.val (.ref o0), .val (.int (0 : Int32)), .val (.int p2), .val (.int p3), .val (.int p4), .val (.int p5), .val (.long (w_w_o0_revisions_0 + (1 : Int64))), .second] [(.ref w_o0_lastRemoval)]))
    refine own_iloadN X270 hx (hb hby own_d6_28) rfl (q := 29) rfl ?_
    refine own_lload X270 hx (hb hby own_d6_29) rfl (q := 31) rfl ?_
    obtain ⟨cl271, Ar271, q271, S271, N271v, H271, G271⟩ := id V_w_o0_lastRemoval_218
    have hin271 : ¬ ((0 : Int32) < 0 ∨ cl271.slots.size ≤ ((0 : Int32)).toNatClampNeg) := inb_of S271 ⟨by decide, by decide⟩
    obtain ⟨T271, h271, X271, e271, W271, st271⟩ := stJ X270 hx hZ e270 Ar271 (j := (0 : Int32)) hin271 (g := (mkF m 31 #[.val (.ref o0), .val (.int (0 : Int32)), .val (.int p2), .val (.int p3), .val (.int p4), .val (.int p5), .val (.long (w_w_o0_revisions_0 + (1 : Int64))), .second] [(.long (w_w_o0_revisions_0 + (1 : Int64))), (.int (0 : Int32)), (.ref w_o0_lastRemoval)])) rfl rfl (hb hby own_d6_31)
    have V_w_o0_lastRemoval_271 : Arv Z h271 w_o0_lastRemoval k_w_o0_lastRemoval .long (2 : Int32) [(.long (w_w_o0_revisions_0 + (1 : Int64))), (.long w_w_o0_lastRemoval_1)] (.long (0 : Int64)) := Arv.set Ar271 q271 S271 N271v H271 G271 rfl W271 0 rfl (Nat.le_of_ble_eq_true rfl)
    have E_o0_272 := E_o0_210.wr W271
    have F_o0_revisions_273 := F_o0_revisions_211.other W271 (Or.inl ne_o0_w_o0_lastRemoval)
    have F_o0_lastWipeOut_274 := F_o0_lastWipeOut_212.other W271 (Or.inl ne_o0_w_o0_lastRemoval)
    have F_o0_lastRemoval_275 := F_o0_lastRemoval_213.other W271 (Or.inl ne_o0_w_o0_lastRemoval)
    have F_o0_lastStrongRemoval_276 := F_o0_lastStrongRemoval_214.other W271 (Or.inl ne_o0_w_o0_lastRemoval)
    have F_o0_lastPosition_277 := F_o0_lastPosition_215.other W271 (Or.inl ne_o0_w_o0_lastRemoval)
    have V_w_o0_revisions_278 := V_w_o0_revisions_216.other W271 ne_w_o0_revisions_w_o0_lastRemoval
    have V_w_o0_lastWipeOut_279 := V_w_o0_lastWipeOut_217.other W271 ne_w_o0_lastWipeOut_w_o0_lastRemoval
    have V_w_o0_lastStrongRemoval_280 := V_w_o0_lastStrongRemoval_219.other W271 (Ne.symm ne_w_o0_lastRemoval_w_o0_lastStrongRemoval)
    have V_w_o0_lastPosition_281 := V_w_o0_lastPosition_209.other W271 (Ne.symm ne_w_o0_lastRemoval_w_o0_lastPosition)
    have Kp282 : Keep h0 _ [w_o0_revisions, w_o0_lastWipeOut, w_o0_lastRemoval, w_o0_lastStrongRemoval, w_o0_lastPosition] := Kp220.wr W271 (Or.inl (List.mem_of_getElem? (i := 2) rfl))
    have Z283 := Nat.le_trans Z221 (Keep.of_wr W271).1
    obtain ⟨L271, X271, N271⟩ := own_gl X271 (Fr.snoc X271 N209 g_w_o0_lastRemoval)
    refine own_back st271 ?_
    show own_End p e below s _ _ _ (T271.setTop (mkF m 32 #[.val (.ref o0), .val (.int (0 : Int32)), .val (.int p2), .val (.int p3), .val (.int p4), .val (.int p5), .val (.long (w_w_o0_revisions_0 + (1 : Int64))), .second] []))
    refine own_iload X271 hx (hb hby own_d6_32) rfl (q := 34) rfl ?_
    by_cases hc34_284 : p4 = (0 : Int32)
    · refine own_ifY X271 hx (hb hby own_d6_34) (teq hc34_284).1 (q := 45) (by decide) (by decide) ?_
      refine own_iload X271 hx (hb hby own_d6_45) rfl (q := 47) rfl ?_
      refine own_ifN X271 hx (hb hby own_d6_47) (teq hc34_284).2 (q := 50) rfl ?_
      refine own_iload X271 hx (hb hby own_d6_50) rfl (q := 52) rfl ?_
      by_cases hc52_285 : p5 = (0 : Int32)
      · refine own_ifY X271 hx (hb hby own_d6_52) (teq hc52_285).1 (q := 63) (by decide) (by decide) ?_
        refine own_retV X271 hx Bd.returns Bd.notSynchronized (by decide) (by decide) (hb hby own_d6_63) ?_
        show own_Q6_0 Z o0 p2 p3 p4 p5 w_o0_revisions w_o0_lastWipeOut w_o0_lastRemoval w_o0_lastStrongRemoval w_o0_lastPosition k_w_o0_revisions w_w_o0_revisions_0 w_w_o0_revisions_1 k_w_o0_lastWipeOut w_w_o0_lastWipeOut_0 w_w_o0_lastWipeOut_1 k_w_o0_lastRemoval w_w_o0_lastRemoval_0 w_w_o0_lastRemoval_1 k_w_o0_lastStrongRemoval w_w_o0_lastStrongRemoval_0 w_w_o0_lastStrongRemoval_1 k_w_o0_lastPosition w_w_o0_lastPosition_0 w_w_o0_lastPosition_1 h0 n0 _ T271.heap _
        rw [e271]
        exact ⟨rfl, N271, Kp282, V_w_o0_revisions_278, (by have q := V_w_o0_lastWipeOut_279; simp only [own_G6_0_w_o0_lastWipeOut_0, if_neg hc21_222, if_pos hc34_284, if_pos hc52_285]; exact q), (by have q := V_w_o0_lastRemoval_271; simp only [own_G6_0_w_o0_lastRemoval_0, if_neg hc21_222, if_pos hc34_284, if_pos hc52_285]; exact q), (by have q := V_w_o0_lastStrongRemoval_280; simp only [own_G6_0_w_o0_lastStrongRemoval_0, if_neg hc21_222, if_pos hc34_284, if_pos hc52_285]; exact q), V_w_o0_lastPosition_281⟩
      · refine own_ifN X271 hx (hb hby own_d6_52) (feq hc52_285).1 (q := 55) rfl ?_
        refine own_aloadN X271 hx (hb hby own_d6_55) rfl rfl (q := 56) rfl ?_
        obtain ⟨T287, X287, e287, st287⟩ := getF X271 hx hZ hown (host := "") (Or.inl (hw _ (List.mem_of_getElem? (i := 20) rfl))) Via.refl e271 F_o0_lastStrongRemoval_276 (g := (mkF m 56 #[.val (.ref o0), .val (.int (0 : Int32)), .val (.int p2), .val (.int p3), .val (.int p4), .val (.int p5), .val (.long (w_w_o0_revisions_0 + (1 : Int64))), .second] [(.ref o0)])) rfl rfl (hb hby own_d6_56)
        refine own_back st287 ?_
        show own_End p e below s _ _ _ (T287.setTop (mkF m 59 #[.val (.ref o0), .val (.int (0 : Int32)), .val (.int p2), .val (.int p3), .val (.int p4), .val (.int p5), .val (.long (w_w_o0_revisions_0 + (1 : Int64))), .second] [(.ref w_o0_lastStrongRemoval)]))
        refine own_iloadN X287 hx (hb hby own_d6_59) rfl (q := 60) rfl ?_
        refine own_lload X287 hx (hb hby own_d6_60) rfl (q := 62) rfl ?_
        obtain ⟨cl288, Ar288, q288, S288, N288v, H288, G288⟩ := id V_w_o0_lastStrongRemoval_280
        have hin288 : ¬ ((0 : Int32) < 0 ∨ cl288.slots.size ≤ ((0 : Int32)).toNatClampNeg) := inb_of S288 ⟨by decide, by decide⟩
        obtain ⟨T288, h288, X288, e288, W288, st288⟩ := stJ X287 hx hZ e287 Ar288 (j := (0 : Int32)) hin288 (g := (mkF m 62 #[.val (.ref o0), .val (.int (0 : Int32)), .val (.int p2), .val (.int p3), .val (.int p4), .val (.int p5), .val (.long (w_w_o0_revisions_0 + (1 : Int64))), .second] [(.long (w_w_o0_revisions_0 + (1 : Int64))), (.int (0 : Int32)), (.ref w_o0_lastStrongRemoval)])) rfl rfl (hb hby own_d6_62)
        have V_w_o0_lastStrongRemoval_288 : Arv Z h288 w_o0_lastStrongRemoval k_w_o0_lastStrongRemoval .long (2 : Int32) [(.long (w_w_o0_revisions_0 + (1 : Int64))), (.long w_w_o0_lastStrongRemoval_1)] (.long (0 : Int64)) := Arv.set Ar288 q288 S288 N288v H288 G288 rfl W288 0 rfl (Nat.le_of_ble_eq_true rfl)
        have E_o0_289 := E_o0_272.wr W288
        have F_o0_revisions_290 := F_o0_revisions_273.other W288 (Or.inl ne_o0_w_o0_lastStrongRemoval)
        have F_o0_lastWipeOut_291 := F_o0_lastWipeOut_274.other W288 (Or.inl ne_o0_w_o0_lastStrongRemoval)
        have F_o0_lastRemoval_292 := F_o0_lastRemoval_275.other W288 (Or.inl ne_o0_w_o0_lastStrongRemoval)
        have F_o0_lastStrongRemoval_293 := F_o0_lastStrongRemoval_276.other W288 (Or.inl ne_o0_w_o0_lastStrongRemoval)
        have F_o0_lastPosition_294 := F_o0_lastPosition_277.other W288 (Or.inl ne_o0_w_o0_lastStrongRemoval)
        have V_w_o0_revisions_295 := V_w_o0_revisions_278.other W288 ne_w_o0_revisions_w_o0_lastStrongRemoval
        have V_w_o0_lastWipeOut_296 := V_w_o0_lastWipeOut_279.other W288 ne_w_o0_lastWipeOut_w_o0_lastStrongRemoval
        have V_w_o0_lastRemoval_297 := V_w_o0_lastRemoval_271.other W288 ne_w_o0_lastRemoval_w_o0_lastStrongRemoval
        have V_w_o0_lastPosition_298 := V_w_o0_lastPosition_281.other W288 (Ne.symm ne_w_o0_lastStrongRemoval_w_o0_lastPosition)
        have Kp299 : Keep h0 _ [w_o0_revisions, w_o0_lastWipeOut, w_o0_lastRemoval, w_o0_lastStrongRemoval, w_o0_lastPosition] := Kp282.wr W288 (Or.inl (List.mem_of_getElem? (i := 3) rfl))
        have Z300 := Nat.le_trans Z283 (Keep.of_wr W288).1
        obtain ⟨L288, X288, N288⟩ := own_gl X288 (Fr.snoc X288 N271 g_w_o0_lastStrongRemoval)
        refine own_back st288 ?_
        show own_End p e below s _ _ _ (T288.setTop (mkF m 63 #[.val (.ref o0), .val (.int (0 : Int32)), .val (.int p2), .val (.int p3), .val (.int p4), .val (.int p5), .val (.long (w_w_o0_revisions_0 + (1 : Int64))), .second] []))
        refine own_retV X288 hx Bd.returns Bd.notSynchronized (by decide) (by decide) (hb hby own_d6_63) ?_
        show own_Q6_0 Z o0 p2 p3 p4 p5 w_o0_revisions w_o0_lastWipeOut w_o0_lastRemoval w_o0_lastStrongRemoval w_o0_lastPosition k_w_o0_revisions w_w_o0_revisions_0 w_w_o0_revisions_1 k_w_o0_lastWipeOut w_w_o0_lastWipeOut_0 w_w_o0_lastWipeOut_1 k_w_o0_lastRemoval w_w_o0_lastRemoval_0 w_w_o0_lastRemoval_1 k_w_o0_lastStrongRemoval w_w_o0_lastStrongRemoval_0 w_w_o0_lastStrongRemoval_1 k_w_o0_lastPosition w_w_o0_lastPosition_0 w_w_o0_lastPosition_1 h0 n0 _ T288.heap _
        rw [e288]
        exact ⟨rfl, N288, Kp299, V_w_o0_revisions_295, (by have q := V_w_o0_lastWipeOut_296; simp only [own_G6_0_w_o0_lastWipeOut_0, if_neg hc21_222, if_pos hc34_284, if_neg hc52_285]; exact q), (by have q := V_w_o0_lastRemoval_297; simp only [own_G6_0_w_o0_lastRemoval_0, if_neg hc21_222, if_pos hc34_284, if_neg hc52_285]; exact q), (by have q := V_w_o0_lastStrongRemoval_288; simp only [own_G6_0_w_o0_lastStrongRemoval_0, if_neg hc21_222, if_pos hc34_284, if_neg hc52_285]; exact q), V_w_o0_lastPosition_298⟩
    · refine own_ifN X271 hx (hb hby own_d6_34) (feq hc34_284).1 (q := 37) rfl ?_
      refine own_aloadN X271 hx (hb hby own_d6_37) rfl rfl (q := 38) rfl ?_
      obtain ⟨T302, X302, e302, st302⟩ := getF X271 hx hZ hown (host := "") (Or.inl (hw _ (List.mem_of_getElem? (i := 16) rfl))) Via.refl e271 F_o0_lastWipeOut_274 (g := (mkF m 38 #[.val (.ref o0), .val (.int (0 : Int32)), .val (.int p2), .val (.int p3), .val (.int p4), .val (.int p5), .val (.long (w_w_o0_revisions_0 + (1 : Int64))), .second] [(.ref o0)])) rfl rfl (hb hby own_d6_38)
      refine own_back st302 ?_
      show own_End p e below s _ _ _ (T302.setTop (mkF m 41 #[.val (.ref o0), .val (.int (0 : Int32)), .val (.int p2), .val (.int p3), .val (.int p4), .val (.int p5), .val (.long (w_w_o0_revisions_0 + (1 : Int64))), .second] [(.ref w_o0_lastWipeOut)]))
      refine own_iloadN X302 hx (hb hby own_d6_41) rfl (q := 42) rfl ?_
      refine own_lload X302 hx (hb hby own_d6_42) rfl (q := 44) rfl ?_
      obtain ⟨cl303, Ar303, q303, S303, N303v, H303, G303⟩ := id V_w_o0_lastWipeOut_279
      have hin303 : ¬ ((0 : Int32) < 0 ∨ cl303.slots.size ≤ ((0 : Int32)).toNatClampNeg) := inb_of S303 ⟨by decide, by decide⟩
      obtain ⟨T303, h303, X303, e303, W303, st303⟩ := stJ X302 hx hZ e302 Ar303 (j := (0 : Int32)) hin303 (g := (mkF m 44 #[.val (.ref o0), .val (.int (0 : Int32)), .val (.int p2), .val (.int p3), .val (.int p4), .val (.int p5), .val (.long (w_w_o0_revisions_0 + (1 : Int64))), .second] [(.long (w_w_o0_revisions_0 + (1 : Int64))), (.int (0 : Int32)), (.ref w_o0_lastWipeOut)])) rfl rfl (hb hby own_d6_44)
      have V_w_o0_lastWipeOut_303 : Arv Z h303 w_o0_lastWipeOut k_w_o0_lastWipeOut .long (2 : Int32) [(.long (w_w_o0_revisions_0 + (1 : Int64))), (.long w_w_o0_lastWipeOut_1)] (.long (0 : Int64)) := Arv.set Ar303 q303 S303 N303v H303 G303 rfl W303 0 rfl (Nat.le_of_ble_eq_true rfl)
      have E_o0_304 := E_o0_272.wr W303
      have F_o0_revisions_305 := F_o0_revisions_273.other W303 (Or.inl ne_o0_w_o0_lastWipeOut)
      have F_o0_lastWipeOut_306 := F_o0_lastWipeOut_274.other W303 (Or.inl ne_o0_w_o0_lastWipeOut)
      have F_o0_lastRemoval_307 := F_o0_lastRemoval_275.other W303 (Or.inl ne_o0_w_o0_lastWipeOut)
      have F_o0_lastStrongRemoval_308 := F_o0_lastStrongRemoval_276.other W303 (Or.inl ne_o0_w_o0_lastWipeOut)
      have F_o0_lastPosition_309 := F_o0_lastPosition_277.other W303 (Or.inl ne_o0_w_o0_lastWipeOut)
      have V_w_o0_revisions_310 := V_w_o0_revisions_278.other W303 ne_w_o0_revisions_w_o0_lastWipeOut
      have V_w_o0_lastRemoval_311 := V_w_o0_lastRemoval_271.other W303 (Ne.symm ne_w_o0_lastWipeOut_w_o0_lastRemoval)
      have V_w_o0_lastStrongRemoval_312 := V_w_o0_lastStrongRemoval_280.other W303 (Ne.symm ne_w_o0_lastWipeOut_w_o0_lastStrongRemoval)
      have V_w_o0_lastPosition_313 := V_w_o0_lastPosition_281.other W303 (Ne.symm ne_w_o0_lastWipeOut_w_o0_lastPosition)
      have Kp314 : Keep h0 _ [w_o0_revisions, w_o0_lastWipeOut, w_o0_lastRemoval, w_o0_lastStrongRemoval, w_o0_lastPosition] := Kp282.wr W303 (Or.inl (List.mem_of_getElem? (i := 1) rfl))
      have Z315 := Nat.le_trans Z283 (Keep.of_wr W303).1
      obtain ⟨L303, X303, N303⟩ := own_gl X303 (Fr.snoc X303 N271 g_w_o0_lastWipeOut)
      refine own_back st303 ?_
      show own_End p e below s _ _ _ (T303.setTop (mkF m 45 #[.val (.ref o0), .val (.int (0 : Int32)), .val (.int p2), .val (.int p3), .val (.int p4), .val (.int p5), .val (.long (w_w_o0_revisions_0 + (1 : Int64))), .second] []))
      refine own_iload X303 hx (hb hby own_d6_45) rfl (q := 47) rfl ?_
      refine own_ifY X303 hx (hb hby own_d6_47) (feq hc34_284).2 (q := 55) (by decide) (by decide) ?_
      refine own_aloadN X303 hx (hb hby own_d6_55) rfl rfl (q := 56) rfl ?_
      obtain ⟨T316, X316, e316, st316⟩ := getF X303 hx hZ hown (host := "") (Or.inl (hw _ (List.mem_of_getElem? (i := 20) rfl))) Via.refl e303 F_o0_lastStrongRemoval_308 (g := (mkF m 56 #[.val (.ref o0), .val (.int (0 : Int32)), .val (.int p2), .val (.int p3), .val (.int p4), .val (.int p5), .val (.long (w_w_o0_revisions_0 + (1 : Int64))), .second] [(.ref o0)])) rfl rfl (hb hby own_d6_56)
      refine own_back st316 ?_
      show own_End p e below s _ _ _ (T316.setTop (mkF m 59 #[.val (.ref o0), .val (.int (0 : Int32)), .val (.int p2), .val (.int p3), .val (.int p4), .val (.int p5), .val (.long (w_w_o0_revisions_0 + (1 : Int64))), .second] [(.ref w_o0_lastStrongRemoval)]))
      refine own_iloadN X316 hx (hb hby own_d6_59) rfl (q := 60) rfl ?_
      refine own_lload X316 hx (hb hby own_d6_60) rfl (q := 62) rfl ?_
      obtain ⟨cl317, Ar317, q317, S317, N317v, H317, G317⟩ := id V_w_o0_lastStrongRemoval_312
      have hin317 : ¬ ((0 : Int32) < 0 ∨ cl317.slots.size ≤ ((0 : Int32)).toNatClampNeg) := inb_of S317 ⟨by decide, by decide⟩
      obtain ⟨T317, h317, X317, e317, W317, st317⟩ := stJ X316 hx hZ e316 Ar317 (j := (0 : Int32)) hin317 (g := (mkF m 62 #[.val (.ref o0), .val (.int (0 : Int32)), .val (.int p2), .val (.int p3), .val (.int p4), .val (.int p5), .val (.long (w_w_o0_revisions_0 + (1 : Int64))), .second] [(.long (w_w_o0_revisions_0 + (1 : Int64))), (.int (0 : Int32)), (.ref w_o0_lastStrongRemoval)])) rfl rfl (hb hby own_d6_62)
      have V_w_o0_lastStrongRemoval_317 : Arv Z h317 w_o0_lastStrongRemoval k_w_o0_lastStrongRemoval .long (2 : Int32) [(.long (w_w_o0_revisions_0 + (1 : Int64))), (.long w_w_o0_lastStrongRemoval_1)] (.long (0 : Int64)) := Arv.set Ar317 q317 S317 N317v H317 G317 rfl W317 0 rfl (Nat.le_of_ble_eq_true rfl)
      have E_o0_318 := E_o0_304.wr W317
      have F_o0_revisions_319 := F_o0_revisions_305.other W317 (Or.inl ne_o0_w_o0_lastStrongRemoval)
      have F_o0_lastWipeOut_320 := F_o0_lastWipeOut_306.other W317 (Or.inl ne_o0_w_o0_lastStrongRemoval)
      have F_o0_lastRemoval_321 := F_o0_lastRemoval_307.other W317 (Or.inl ne_o0_w_o0_lastStrongRemoval)
      have F_o0_lastStrongRemoval_322 := F_o0_lastStrongRemoval_308.other W317 (Or.inl ne_o0_w_o0_lastStrongRemoval)
      have F_o0_lastPosition_323 := F_o0_lastPosition_309.other W317 (Or.inl ne_o0_w_o0_lastStrongRemoval)
      have V_w_o0_revisions_324 := V_w_o0_revisions_310.other W317 ne_w_o0_revisions_w_o0_lastStrongRemoval
      have V_w_o0_lastWipeOut_325 := V_w_o0_lastWipeOut_303.other W317 ne_w_o0_lastWipeOut_w_o0_lastStrongRemoval
      have V_w_o0_lastRemoval_326 := V_w_o0_lastRemoval_311.other W317 ne_w_o0_lastRemoval_w_o0_lastStrongRemoval
      have V_w_o0_lastPosition_327 := V_w_o0_lastPosition_313.other W317 (Ne.symm ne_w_o0_lastStrongRemoval_w_o0_lastPosition)
      have Kp328 : Keep h0 _ [w_o0_revisions, w_o0_lastWipeOut, w_o0_lastRemoval, w_o0_lastStrongRemoval, w_o0_lastPosition] := Kp314.wr W317 (Or.inl (List.mem_of_getElem? (i := 3) rfl))
      have Z329 := Nat.le_trans Z315 (Keep.of_wr W317).1
      obtain ⟨L317, X317, N317⟩ := own_gl X317 (Fr.snoc X317 N303 g_w_o0_lastStrongRemoval)
      refine own_back st317 ?_
      show own_End p e below s _ _ _ (T317.setTop (mkF m 63 #[.val (.ref o0), .val (.int (0 : Int32)), .val (.int p2), .val (.int p3), .val (.int p4), .val (.int p5), .val (.long (w_w_o0_revisions_0 + (1 : Int64))), .second] []))
      refine own_retV X317 hx Bd.returns Bd.notSynchronized (by decide) (by decide) (hb hby own_d6_63) ?_
      show own_Q6_0 Z o0 p2 p3 p4 p5 w_o0_revisions w_o0_lastWipeOut w_o0_lastRemoval w_o0_lastStrongRemoval w_o0_lastPosition k_w_o0_revisions w_w_o0_revisions_0 w_w_o0_revisions_1 k_w_o0_lastWipeOut w_w_o0_lastWipeOut_0 w_w_o0_lastWipeOut_1 k_w_o0_lastRemoval w_w_o0_lastRemoval_0 w_w_o0_lastRemoval_1 k_w_o0_lastStrongRemoval w_w_o0_lastStrongRemoval_0 w_w_o0_lastStrongRemoval_1 k_w_o0_lastPosition w_w_o0_lastPosition_0 w_w_o0_lastPosition_1 h0 n0 _ T317.heap _
      rw [e317]
      exact ⟨rfl, N317, Kp328, V_w_o0_revisions_324, (by have q := V_w_o0_lastWipeOut_325; simp only [own_G6_0_w_o0_lastWipeOut_0, if_neg hc21_222, if_neg hc34_284]; exact q), (by have q := V_w_o0_lastRemoval_326; simp only [own_G6_0_w_o0_lastRemoval_0, if_neg hc21_222, if_neg hc34_284]; exact q), (by have q := V_w_o0_lastStrongRemoval_317; simp only [own_G6_0_w_o0_lastStrongRemoval_0, if_neg hc21_222, if_neg hc34_284]; exact q), V_w_o0_lastPosition_327⟩
theorem own_d8_0 : decode prog_2_method_6_code 0 = .ok (.aload_n 0, 1) := by decide +kernel
theorem own_d8_1 : decode prog_2_method_6_code 1 = .ok (.getfield 22, 3) := by decide +kernel
theorem own_d8_4 : decode prog_2_method_6_code 4 = .ok (.iload_n 1, 1) := by decide +kernel
theorem own_d8_5 : decode prog_2_method_6_code 5 = .ok (.iaload, 1) := by decide +kernel
theorem own_d8_6 : decode prog_2_method_6_code 6 = .ok (.ireturn, 1) := by decide +kernel
def own_Q8_0 (Z : State) (o0 : Addr) (w_o0_lastPosition : Addr) (k_w_o0_lastPosition : ClassId) (w_w_o0_lastPosition_0 : Int32) (w_w_o0_lastPosition_1 : Int32) (h0 : Heap) (n0 : Nat) (v : Option Value) (h : Heap) (L : List Loc) : Prop := v = some (.int w_w_o0_lastPosition_0) ∧ Fr n0 L ∧ h = h0
theorem own_pn_rm8_0 : plainName "com/example/arcwise/arcwise/adaptation/History" = true := by first | (simp [plainName, overriddenIn]; done) | decide +kernel
theorem own_ef_rm8_0 (m : MethodId) (o0 : Addr) : entryFrame m #[(.ref o0), (.int (0 : Int32))] 2 = mkF m 0 #[.val (.ref o0), .val (.int (0 : Int32))] [] := by first | (simp [entryFrame, mkF, argsToLocals, Value.category]; done) | rfl
set_option maxRecDepth 65536 in
set_option maxHeartbeats 40000000 in
theorem own_rm8_0 (l : Launch) (Z : State) (a0 : Array Value) (hw : ∀ d ∈ tables_1, d.before a0 Z = true) (ws : List Jvm.Cond) (o0 : Addr) (w_o0_lastPosition : Addr) (k_w_o0_lastPosition : ClassId) (w_w_o0_lastPosition_0 : Int32) (w_w_o0_lastPosition_1 : Int32) (h0 : Heap) (n0 : Nat) (Z0 : n0 ≤ h0.size) (E_o0 : Exa Z h0 o0 "com/example/arcwise/arcwise/adaptation/History") (F_o0_lastPosition : Fld Z h0 o0 "com/example/arcwise/arcwise/adaptation/History" "lastPosition" "[I" (.ref w_o0_lastPosition)) (V_w_o0_lastPosition : Arv Z h0 w_o0_lastPosition k_w_o0_lastPosition .int (2 : Int32) [(.int w_w_o0_lastPosition_0), (.int w_w_o0_lastPosition_1)] (.int (0 : Int32))) :
    MetFree l (⟨"com/example/arcwise/arcwise/adaptation/History", "lastPosition", "(I)I"⟩ : MethodName) (head1 (Jvm.Cond.code (⟨"com/example/arcwise/arcwise/adaptation/History", "lastPosition", "(I)I"⟩ : MethodName) prog_2_method_6_code 2 (some .int) :: ws) ({ frames := 0, cells := 0, slots := 0, locals := 0 } : Room)) (fun a U => a = #[(.ref o0), (.int (0 : Int32))] ∧ Z.Warmed39 U.vm ∧ U.heap = h0) (fun _ _ _ _ _ => True) (fun _ U o U' => ∃ v L, o = .returned v ∧ own_Q8_0 Z o0 w_o0_lastPosition k_w_o0_lastPosition w_w_o0_lastPosition_0 w_w_o0_lastPosition_1 h0 n0 v U'.heap L ∧ FrameEnd U o U' L ({ frames := 0, cells := 0, slots := 0, locals := 0 } : Room).cells ({ frames := 0, cells := 0, slots := 0, locals := 0 } : Room).slots) := by
  refine MetFree.of_bodySF (plainFor_of_name own_pn_rm8_0) hisR ?_
  intro p e s m args below meth c s₁ Bd hml0 hP hK
  obtain ⟨rfl, hZ, hh⟩ := hP
  have hx := Bd.exec
  have hby := Bd.bytes
  have hml : c.maxLocals = 2 := hml0
  have hown : s.vm.findClass "com/example/arcwise/arcwise/adaptation/History" = some m.cls := findClass_of_methodNamed Bd.named
  have hnm := (name_of_methodNamed Bd.named Bd.method).1
  have X0 : Stand p l e ({ frames := 0, cells := 0, slots := 0, locals := 0 } : Room) s m #[(.ref o0), (.int (0 : Int32))] below meth c s₁ [] 0 0 := Stand.of_body Bd
  have e0 : s₁.heap = h0 := by rw [← hh, Bd.state]; rfl
  have N0 := Fr.nil n0
  show own_End p e below s (own_Q8_0 Z o0 w_o0_lastPosition k_w_o0_lastPosition w_w_o0_lastPosition_0 w_w_o0_lastPosition_1 h0 n0) ({ frames := 0, cells := 0, slots := 0, locals := 0 } : Room).cells ({ frames := 0, cells := 0, slots := 0, locals := 0 } : Room).slots (s₁.setTop (entryFrame m #[(.ref o0), (.int (0 : Int32))] 2))
  rw [own_ef_rm8_0]
  refine own_aloadN X0 hx (hb hby own_d8_0) rfl rfl (q := 1) rfl ?_
  obtain ⟨T331, X331, e331, st331⟩ := getF X0 hx hZ hown (host := "") (Or.inl (hw _ (List.mem_of_getElem? (i := 23) rfl))) Via.refl e0 F_o0_lastPosition (g := (mkF m 1 #[.val (.ref o0), .val (.int (0 : Int32))] [(.ref o0)])) rfl rfl (hb hby own_d8_1)
  refine own_back st331 ?_
  show own_End p e below s _ _ _ (T331.setTop (mkF m 4 #[.val (.ref o0), .val (.int (0 : Int32))] [(.ref w_o0_lastPosition)]))
  refine own_iloadN X331 hx (hb hby own_d8_4) rfl (q := 5) rfl ?_
  obtain ⟨cl332, Ar332, q332, S332, N332v, H332, G332⟩ := id V_w_o0_lastPosition
  have hin332 : ¬ ((0 : Int32) < 0 ∨ cl332.slots.size ≤ ((0 : Int32)).toNatClampNeg) := inb_of S332 ⟨by decide, by decide⟩
  refine own_back (X331.iaload hx (j := (0 : Int32)) (v := (.int w_w_o0_lastPosition_0)) (by rw [e331]; exact Ar332.1) (State.isArrayOf_alike hZ.alike Ar332.2.1) Ar332.2.2 hin332 (Has.at H332 hin332 rfl) (g := (mkF m 5 #[.val (.ref o0), .val (.int (0 : Int32))] [(.int (0 : Int32)), (.ref w_o0_lastPosition)])) rfl rfl (hb hby own_d8_5)) ?_
  show own_End p e below s _ _ _ (T331.setTop (mkF m 6 #[.val (.ref o0), .val (.int (0 : Int32))] [(.int w_w_o0_lastPosition_0)]))
  refine own_retI X331 hx Bd.returns Bd.notSynchronized (by decide) (by decide) (hb hby own_d8_6) ?_
  show own_Q8_0 Z o0 w_o0_lastPosition k_w_o0_lastPosition w_w_o0_lastPosition_0 w_w_o0_lastPosition_1 h0 n0 _ T331.heap _
  exact ⟨rfl, N0, e331⟩
theorem own_d10_0 : decode prog_2_method_7_code 0 = .ok (.aload_n 1, 1) := by decide +kernel
theorem own_d10_1 : decode prog_2_method_7_code 1 = .ok (.iload_n 2, 1) := by decide +kernel
theorem own_d10_2 : decode prog_2_method_7_code 2 = .ok (.laload, 1) := by decide +kernel
theorem own_d10_3 : decode prog_2_method_7_code 3 = .ok (.ldc2_w 26, 3) := by decide +kernel
theorem own_d10_6 : decode prog_2_method_7_code 6 = .ok (.lcmp, 1) := by decide +kernel
theorem own_d10_7 : decode prog_2_method_7_code 7 = .ok (.ifCond .ne 9, 3) := by decide +kernel
theorem own_d10_10 : decode prog_2_method_7_code 10 = .ok (.ldc2_w 43, 3) := by decide +kernel
theorem own_d10_13 : decode prog_2_method_7_code 13 = .ok (.goto 13, 3) := by decide +kernel
theorem own_d10_26 : decode prog_2_method_7_code 26 = .ok (.lreturn, 1) := by decide +kernel
theorem own_d10_16 : decode prog_2_method_7_code 16 = .ok (.aload_n 0, 1) := by decide +kernel
theorem own_d10_17 : decode prog_2_method_7_code 17 = .ok (.getfield 7, 3) := by decide +kernel
theorem own_d10_20 : decode prog_2_method_7_code 20 = .ok (.iload_n 2, 1) := by decide +kernel
theorem own_d10_21 : decode prog_2_method_7_code 21 = .ok (.laload, 1) := by decide +kernel
theorem own_d10_22 : decode prog_2_method_7_code 22 = .ok (.aload_n 1, 1) := by decide +kernel
theorem own_d10_23 : decode prog_2_method_7_code 23 = .ok (.iload_n 2, 1) := by decide +kernel
theorem own_d10_24 : decode prog_2_method_7_code 24 = .ok (.laload, 1) := by decide +kernel
theorem own_d10_25 : decode prog_2_method_7_code 25 = .ok (.lsub, 1) := by decide +kernel
def own_F10_0 (w_w_o0_revisions_0 : Int64) (w_o1_0 : Int64) : Int64 := (if w_o1_0 = (-1 : Int64) then (9223372036854775807 : Int64) else (w_w_o0_revisions_0 - w_o1_0))
def own_Q10_0 (Z : State) (o0 : Addr) (o1 : Addr) (w_o0_revisions : Addr) (k_w_o0_revisions : ClassId) (w_w_o0_revisions_0 : Int64) (w_w_o0_revisions_1 : Int64) (k_o1 : ClassId) (w_o1_0 : Int64) (w_o1_1 : Int64) (h0 : Heap) (n0 : Nat) (v : Option Value) (h : Heap) (L : List Loc) : Prop := v = some (.long (own_F10_0 w_w_o0_revisions_0 w_o1_0)) ∧ Fr n0 L ∧ h = h0
theorem own_pn_rm10_0 : plainName "com/example/arcwise/arcwise/adaptation/History" = true := by first | (simp [plainName, overriddenIn]; done) | decide +kernel
theorem own_ef_rm10_0 (m : MethodId) (o0 : Addr) (o1 : Addr) : entryFrame m #[(.ref o0), (.ref o1), (.int (0 : Int32))] 3 = mkF m 0 #[.val (.ref o0), .val (.ref o1), .val (.int (0 : Int32))] [] := by first | (simp [entryFrame, mkF, argsToLocals, Value.category]; done) | rfl
set_option maxRecDepth 65536 in
set_option maxHeartbeats 40000000 in
theorem own_rm10_0 (l : Launch) (Z : State) (a0 : Array Value) (hw : ∀ d ∈ tables_1, d.before a0 Z = true) (ws : List Jvm.Cond) (o0 : Addr) (o1 : Addr) (w_o0_revisions : Addr) (k_w_o0_revisions : ClassId) (w_w_o0_revisions_0 : Int64) (w_w_o0_revisions_1 : Int64) (k_o1 : ClassId) (w_o1_0 : Int64) (w_o1_1 : Int64) (h0 : Heap) (n0 : Nat) (Z0 : n0 ≤ h0.size) (E_o0 : Exa Z h0 o0 "com/example/arcwise/arcwise/adaptation/History") (F_o0_revisions : Fld Z h0 o0 "com/example/arcwise/arcwise/adaptation/History" "revisions" "[J" (.ref w_o0_revisions)) (V_w_o0_revisions : Arv Z h0 w_o0_revisions k_w_o0_revisions .long (2 : Int32) [(.long w_w_o0_revisions_0), (.long w_w_o0_revisions_1)] (.long (0 : Int64))) (V_o1 : Arv Z h0 o1 k_o1 .long (2 : Int32) [(.long w_o1_0), (.long w_o1_1)] (.long (0 : Int64))) :
    MetFree l (⟨"com/example/arcwise/arcwise/adaptation/History", "since", "([JI)J"⟩ : MethodName) (head1 (Jvm.Cond.code (⟨"com/example/arcwise/arcwise/adaptation/History", "since", "([JI)J"⟩ : MethodName) prog_2_method_7_code 3 (some .long) :: ws) ({ frames := 0, cells := 0, slots := 0, locals := 0 } : Room)) (fun a U => a = #[(.ref o0), (.ref o1), (.int (0 : Int32))] ∧ Z.Warmed39 U.vm ∧ U.heap = h0) (fun _ _ _ _ _ => True) (fun _ U o U' => ∃ v L, o = .returned v ∧ own_Q10_0 Z o0 o1 w_o0_revisions k_w_o0_revisions w_w_o0_revisions_0 w_w_o0_revisions_1 k_o1 w_o1_0 w_o1_1 h0 n0 v U'.heap L ∧ FrameEnd U o U' L ({ frames := 0, cells := 0, slots := 0, locals := 0 } : Room).cells ({ frames := 0, cells := 0, slots := 0, locals := 0 } : Room).slots) := by
  refine MetFree.of_bodySF (plainFor_of_name own_pn_rm10_0) hisR ?_
  intro p e s m args below meth c s₁ Bd hml0 hP hK
  obtain ⟨rfl, hZ, hh⟩ := hP
  have hx := Bd.exec
  have hby := Bd.bytes
  have hml : c.maxLocals = 3 := hml0
  have hown : s.vm.findClass "com/example/arcwise/arcwise/adaptation/History" = some m.cls := findClass_of_methodNamed Bd.named
  have hnm := (name_of_methodNamed Bd.named Bd.method).1
  have X0 : Stand p l e ({ frames := 0, cells := 0, slots := 0, locals := 0 } : Room) s m #[(.ref o0), (.ref o1), (.int (0 : Int32))] below meth c s₁ [] 0 0 := Stand.of_body Bd
  have e0 : s₁.heap = h0 := by rw [← hh, Bd.state]; rfl
  have N0 := Fr.nil n0
  show own_End p e below s (own_Q10_0 Z o0 o1 w_o0_revisions k_w_o0_revisions w_w_o0_revisions_0 w_w_o0_revisions_1 k_o1 w_o1_0 w_o1_1 h0 n0) ({ frames := 0, cells := 0, slots := 0, locals := 0 } : Room).cells ({ frames := 0, cells := 0, slots := 0, locals := 0 } : Room).slots (s₁.setTop (entryFrame m #[(.ref o0), (.ref o1), (.int (0 : Int32))] 3))
  rw [own_ef_rm10_0]
  refine own_aloadN X0 hx (hb hby own_d10_0) rfl rfl (q := 1) rfl ?_
  refine own_iloadN X0 hx (hb hby own_d10_1) rfl (q := 2) rfl ?_
  obtain ⟨cl334, Ar334, q334, S334, N334v, H334, G334⟩ := id V_o1
  have hin334 : ¬ ((0 : Int32) < 0 ∨ cl334.slots.size ≤ ((0 : Int32)).toNatClampNeg) := inb_of S334 ⟨by decide, by decide⟩
  refine own_back (X0.laload hx (j := (0 : Int32)) (v := (.long w_o1_0)) (by rw [e0]; exact Ar334.1) (State.isArrayOf_alike hZ.alike Ar334.2.1) Ar334.2.2 hin334 (Has.at H334 hin334 rfl) (g := (mkF m 2 #[.val (.ref o0), .val (.ref o1), .val (.int (0 : Int32))] [(.int (0 : Int32)), (.ref o1)])) rfl rfl (hb hby own_d10_2)) ?_
  show own_End p e below s _ _ _ (s₁.setTop (mkF m 3 #[.val (.ref o0), .val (.ref o1), .val (.int (0 : Int32))] [(.long w_o1_0)]))
  refine own_back (X0.ldc2Long hx hown (mvT hZ (hw _ (List.mem_of_getElem? (i := 25) rfl))) (g := (mkF m 3 #[.val (.ref o0), .val (.ref o1), .val (.int (0 : Int32))] [(.long w_o1_0)])) rfl (hb hby own_d10_3)) ?_
  show own_End p e below s _ _ _ (s₁.setTop (mkF m 6 #[.val (.ref o0), .val (.ref o1), .val (.int (0 : Int32))] [(.long (-1 : Int64)), (.long w_o1_0)]))
  by_cases hc7_335 : w_o1_0 = (-1 : Int64)
  · refine own_lcN X0 hx (hb hby own_d10_6) (r := 7) rfl (hb hby own_d10_7) (own_teq hc7_335).2 (q := 10) rfl ?_
    refine own_back (X0.ldc2Long hx hown (mvT hZ (hw _ (List.mem_of_getElem? (i := 56) rfl))) (g := (mkF m 10 #[.val (.ref o0), .val (.ref o1), .val (.int (0 : Int32))] [])) rfl (hb hby own_d10_10)) ?_
    show own_End p e below s _ _ _ (s₁.setTop (mkF m 13 #[.val (.ref o0), .val (.ref o1), .val (.int (0 : Int32))] [(.long (9223372036854775807 : Int64))]))
    refine own_goto X0 hx (hb hby own_d10_13) (q := 26) (by decide) (by decide) ?_
    refine own_retJ X0 hx Bd.returns Bd.notSynchronized (by decide) (by decide) (hb hby own_d10_26) ?_
    show own_Q10_0 Z o0 o1 w_o0_revisions k_w_o0_revisions w_w_o0_revisions_0 w_w_o0_revisions_1 k_o1 w_o1_0 w_o1_1 h0 n0 _ s₁.heap _
    exact ⟨(by simp only [own_F10_0, if_pos hc7_335]), N0, e0⟩
  · refine own_lcY X0 hx (hb hby own_d10_6) (r := 7) rfl (hb hby own_d10_7) (own_feq hc7_335).2 (q := 16) (by decide) (by decide) ?_
    refine own_aloadN X0 hx (hb hby own_d10_16) rfl rfl (q := 17) rfl ?_
    obtain ⟨T337, X337, e337, st337⟩ := getF X0 hx hZ hown (host := "") (Or.inl (hw _ (List.mem_of_getElem? (i := 14) rfl))) Via.refl e0 F_o0_revisions (g := (mkF m 17 #[.val (.ref o0), .val (.ref o1), .val (.int (0 : Int32))] [(.ref o0)])) rfl rfl (hb hby own_d10_17)
    refine own_back st337 ?_
    show own_End p e below s _ _ _ (T337.setTop (mkF m 20 #[.val (.ref o0), .val (.ref o1), .val (.int (0 : Int32))] [(.ref w_o0_revisions)]))
    refine own_iloadN X337 hx (hb hby own_d10_20) rfl (q := 21) rfl ?_
    obtain ⟨cl338, Ar338, q338, S338, N338v, H338, G338⟩ := id V_w_o0_revisions
    have hin338 : ¬ ((0 : Int32) < 0 ∨ cl338.slots.size ≤ ((0 : Int32)).toNatClampNeg) := inb_of S338 ⟨by decide, by decide⟩
    refine own_back (X337.laload hx (j := (0 : Int32)) (v := (.long w_w_o0_revisions_0)) (by rw [e337]; exact Ar338.1) (State.isArrayOf_alike hZ.alike Ar338.2.1) Ar338.2.2 hin338 (Has.at H338 hin338 rfl) (g := (mkF m 21 #[.val (.ref o0), .val (.ref o1), .val (.int (0 : Int32))] [(.int (0 : Int32)), (.ref w_o0_revisions)])) rfl rfl (hb hby own_d10_21)) ?_
    show own_End p e below s _ _ _ (T337.setTop (mkF m 22 #[.val (.ref o0), .val (.ref o1), .val (.int (0 : Int32))] [(.long w_w_o0_revisions_0)]))
    refine own_aloadN X337 hx (hb hby own_d10_22) rfl rfl (q := 23) rfl ?_
    refine own_iloadN X337 hx (hb hby own_d10_23) rfl (q := 24) rfl ?_
    obtain ⟨cl339, Ar339, q339, S339, N339v, H339, G339⟩ := id V_o1
    have hin339 : ¬ ((0 : Int32) < 0 ∨ cl339.slots.size ≤ ((0 : Int32)).toNatClampNeg) := inb_of S339 ⟨by decide, by decide⟩
    refine own_back (X337.laload hx (j := (0 : Int32)) (v := (.long w_o1_0)) (by rw [e337]; exact Ar339.1) (State.isArrayOf_alike hZ.alike Ar339.2.1) Ar339.2.2 hin339 (Has.at H339 hin339 rfl) (g := (mkF m 24 #[.val (.ref o0), .val (.ref o1), .val (.int (0 : Int32))] [(.int (0 : Int32)), (.ref o1), (.long w_w_o0_revisions_0)])) rfl rfl (hb hby own_d10_24)) ?_
    show own_End p e below s _ _ _ (T337.setTop (mkF m 25 #[.val (.ref o0), .val (.ref o1), .val (.int (0 : Int32))] [(.long w_o1_0), (.long w_w_o0_revisions_0)]))
    refine own_lsub X337 hx (hb hby own_d10_25) (q := 26) rfl ?_
    refine own_retJ X337 hx Bd.returns Bd.notSynchronized (by decide) (by decide) (hb hby own_d10_26) ?_
    show own_Q10_0 Z o0 o1 w_o0_revisions k_w_o0_revisions w_w_o0_revisions_0 w_w_o0_revisions_1 k_o1 w_o1_0 w_o1_1 h0 n0 _ T337.heap _
    exact ⟨(by simp only [own_F10_0, if_neg hc7_335]), N0, e337⟩
theorem own_d9_0 : decode prog_2_method_4_code 0 = .ok (.aload_n 0, 1) := by decide +kernel
theorem own_d9_1 : decode prog_2_method_4_code 1 = .ok (.aload_n 0, 1) := by decide +kernel
theorem own_d9_2 : decode prog_2_method_4_code 2 = .ok (.getfield 16, 3) := by decide +kernel
theorem own_d9_5 : decode prog_2_method_4_code 5 = .ok (.iload_n 1, 1) := by decide +kernel
theorem own_d9_6 : decode prog_2_method_4_code 6 = .ok (.invokevirtual 37, 3) := by decide +kernel
theorem own_pd2 : parseMethodDescriptor "([JI)J" = some ⟨[(.array .long), .int], some .long⟩ := by decide +kernel
theorem own_d9_9 : decode prog_2_method_4_code 9 = .ok (.lreturn, 1) := by decide +kernel
def own_Q9_0 (Z : State) (o0 : Addr) (w_o0_revisions : Addr) (w_o0_lastRemoval : Addr) (k_w_o0_revisions : ClassId) (w_w_o0_revisions_0 : Int64) (w_w_o0_revisions_1 : Int64) (k_w_o0_lastRemoval : ClassId) (w_w_o0_lastRemoval_0 : Int64) (w_w_o0_lastRemoval_1 : Int64) (h0 : Heap) (n0 : Nat) (v : Option Value) (h : Heap) (L : List Loc) : Prop := v = some (.long (own_F10_0 w_w_o0_revisions_0 w_w_o0_lastRemoval_0)) ∧ Fr n0 L ∧ h = h0
theorem own_pn_rm9_0 : plainName "com/example/arcwise/arcwise/adaptation/History" = true := by first | (simp [plainName, overriddenIn]; done) | decide +kernel
theorem own_ef_rm9_0 (m : MethodId) (o0 : Addr) : entryFrame m #[(.ref o0), (.int (0 : Int32))] 2 = mkF m 0 #[.val (.ref o0), .val (.int (0 : Int32))] [] := by first | (simp [entryFrame, mkF, argsToLocals, Value.category]; done) | rfl
set_option maxRecDepth 65536 in
set_option maxHeartbeats 40000000 in
theorem own_rm9_0 (l : Launch) (Z : State) (a0 : Array Value) (hw : ∀ d ∈ tables_1, d.before a0 Z = true) (ws : List Jvm.Cond) (o0 : Addr) (w_o0_revisions : Addr) (w_o0_lastRemoval : Addr) (k_w_o0_revisions : ClassId) (w_w_o0_revisions_0 : Int64) (w_w_o0_revisions_1 : Int64) (k_w_o0_lastRemoval : ClassId) (w_w_o0_lastRemoval_0 : Int64) (w_w_o0_lastRemoval_1 : Int64) (h0 : Heap) (n0 : Nat) (Z0 : n0 ≤ h0.size) (E_o0 : Exa Z h0 o0 "com/example/arcwise/arcwise/adaptation/History") (F_o0_revisions : Fld Z h0 o0 "com/example/arcwise/arcwise/adaptation/History" "revisions" "[J" (.ref w_o0_revisions)) (F_o0_lastRemoval : Fld Z h0 o0 "com/example/arcwise/arcwise/adaptation/History" "lastRemoval" "[J" (.ref w_o0_lastRemoval)) (V_w_o0_revisions : Arv Z h0 w_o0_revisions k_w_o0_revisions .long (2 : Int32) [(.long w_w_o0_revisions_0), (.long w_w_o0_revisions_1)] (.long (0 : Int64))) (V_w_o0_lastRemoval : Arv Z h0 w_o0_lastRemoval k_w_o0_lastRemoval .long (2 : Int32) [(.long w_w_o0_lastRemoval_0), (.long w_w_o0_lastRemoval_1)] (.long (0 : Int64))) :
    MetFree l (⟨"com/example/arcwise/arcwise/adaptation/History", "sinceRemoval", "(I)J"⟩ : MethodName) (head1 (Jvm.Cond.code (⟨"com/example/arcwise/arcwise/adaptation/History", "sinceRemoval", "(I)J"⟩ : MethodName) prog_2_method_4_code 2 (some .long) :: ws) ({ frames := 1, cells := 0, slots := 0, locals := 14 } : Room)) (fun a U => a = #[(.ref o0), (.int (0 : Int32))] ∧ Z.Warmed39 U.vm ∧ U.heap = h0) (fun _ _ _ _ _ => True) (fun _ U o U' => ∃ v L, o = .returned v ∧ own_Q9_0 Z o0 w_o0_revisions w_o0_lastRemoval k_w_o0_revisions w_w_o0_revisions_0 w_w_o0_revisions_1 k_w_o0_lastRemoval w_w_o0_lastRemoval_0 w_w_o0_lastRemoval_1 h0 n0 v U'.heap L ∧ FrameEnd U o U' L ({ frames := 1, cells := 0, slots := 0, locals := 14 } : Room).cells ({ frames := 1, cells := 0, slots := 0, locals := 14 } : Room).slots) := by
  refine MetFree.of_bodySF (plainFor_of_name own_pn_rm9_0) hisR ?_
  intro p e s m args below meth c s₁ Bd hml0 hP hK
  obtain ⟨rfl, hZ, hh⟩ := hP
  have hx := Bd.exec
  have hby := Bd.bytes
  have hml : c.maxLocals = 2 := hml0
  have hown : s.vm.findClass "com/example/arcwise/arcwise/adaptation/History" = some m.cls := findClass_of_methodNamed Bd.named
  have hnm := (name_of_methodNamed Bd.named Bd.method).1
  have X0 : Stand p l e ({ frames := 1, cells := 0, slots := 0, locals := 14 } : Room) s m #[(.ref o0), (.int (0 : Int32))] below meth c s₁ [] 0 0 := Stand.of_body Bd
  have e0 : s₁.heap = h0 := by rw [← hh, Bd.state]; rfl
  have N0 := Fr.nil n0
  show own_End p e below s (own_Q9_0 Z o0 w_o0_revisions w_o0_lastRemoval k_w_o0_revisions w_w_o0_revisions_0 w_w_o0_revisions_1 k_w_o0_lastRemoval w_w_o0_lastRemoval_0 w_w_o0_lastRemoval_1 h0 n0) ({ frames := 1, cells := 0, slots := 0, locals := 14 } : Room).cells ({ frames := 1, cells := 0, slots := 0, locals := 14 } : Room).slots (s₁.setTop (entryFrame m #[(.ref o0), (.int (0 : Int32))] 2))
  rw [own_ef_rm9_0]
  refine own_aloadN X0 hx (hb hby own_d9_0) rfl rfl (q := 1) rfl ?_
  refine own_aloadN X0 hx (hb hby own_d9_1) rfl rfl (q := 2) rfl ?_
  obtain ⟨T341, X341, e341, st341⟩ := getF X0 hx hZ hown (host := "") (Or.inl (hw _ (List.mem_of_getElem? (i := 18) rfl))) Via.refl e0 F_o0_lastRemoval (g := (mkF m 2 #[.val (.ref o0), .val (.int (0 : Int32))] [(.ref o0), (.ref o0)])) rfl rfl (hb hby own_d9_2)
  refine own_back st341 ?_
  show own_End p e below s _ _ _ (T341.setTop (mkF m 5 #[.val (.ref o0), .val (.int (0 : Int32))] [(.ref w_o0_lastRemoval), (.ref o0)]))
  refine own_iloadN X341 hx (hb hby own_d9_5) rfl (q := 6) rfl ?_
  obtain ⟨cq342, q342, q342'⟩ := E_o0.cell
  obtain ⟨T342, Lc342, L342, X342, N342, hQ342, st342⟩ := own_shutV (val := some (.long (own_F10_0 w_w_o0_revisions_0 w_w_o0_lastRemoval_0))) (Q := own_Q10_0 Z o0 w_o0_lastRemoval w_o0_revisions k_w_o0_revisions w_w_o0_revisions_0 w_w_o0_revisions_1 k_w_o0_lastRemoval w_w_o0_lastRemoval_0 w_w_o0_lastRemoval_1 h0 n0) (rc := 0) (rs := 0) N0 (fun _ _ _ q => ⟨q.1, q.2.1⟩) (X341.privateBack hx (y := (⟨"com/example/arcwise/arcwise/adaptation/History", "since", "([JI)J"⟩ : MethodName)) hown (mvT hZ (hw _ (List.mem_of_getElem? (i := 52) rfl))) (mvT hZ (hw _ (List.mem_of_getElem? (i := 53) rfl))) (own_selfsel (mvT hZ (hw _ (List.mem_of_getElem? (i := 5) rfl))) (Cond.privateMethod_at (mvP hZ (hw _ (List.mem_of_getElem? (i := 54) rfl)) (args := #[]))) (mvT hZ (hw _ (List.mem_of_getElem? (i := 53) rfl))) (by decide)) (Cond.privateMethod_at (mvP hZ (hw _ (List.mem_of_getElem? (i := 54) rfl)) (args := #[]))) (mvT hZ (hw _ (List.mem_of_getElem? (i := 55) rfl))) (by decide) (backOf (W := 0) (own_rm10_0 l Z a0 hw [] o0 w_o0_lastRemoval w_o0_revisions k_w_o0_revisions w_w_o0_revisions_0 w_w_o0_revisions_1 k_w_o0_lastRemoval w_w_o0_lastRemoval_0 w_w_o0_lastRemoval_1 h0 n0 Z0 E_o0 F_o0_revisions V_w_o0_revisions V_w_o0_lastRemoval) hZ (hw _ (List.mem_of_getElem? (i := 55) rfl)) (hw _ (List.mem_of_getElem? (i := 6) rfl)) (by decide) (by decide)) (g := (mkF m 6 #[.val (.ref o0), .val (.int (0 : Int32))] [(.int (0 : Int32)), (.ref w_o0_lastRemoval), (.ref o0)])) rfl (by rw [hml]; rfl) (Steps.refl _) (a := o0) (by rw [e341]; exact q342) q342' (argsL := [(.ref w_o0_lastRemoval), (.int (0 : Int32))]) (rest := []) (lenOf own_pd2 rfl) rfl (by show 2 * 0 + _ ≤ _; exact Nat.le_of_eq rfl) (hb hby own_d9_6) (fun _ _ => ⟨rfl, e341, (by decide : 0 + 0 ≤ _), (by decide : 0 + 0 ≤ _)⟩))
  obtain ⟨-, -, e342⟩ := hQ342
  refine own_via st342 ?_
  show own_End p e below s _ _ _ (T342.setTop (mkF m 9 #[.val (.ref o0), .val (.int (0 : Int32))] [(.long (own_F10_0 w_w_o0_revisions_0 w_w_o0_lastRemoval_0))]))
  refine own_retJ X342 hx Bd.returns Bd.notSynchronized (by decide) (by decide) (hb hby own_d9_9) ?_
  show own_Q9_0 Z o0 w_o0_revisions w_o0_lastRemoval k_w_o0_revisions w_w_o0_revisions_0 w_w_o0_revisions_1 k_w_o0_lastRemoval w_w_o0_lastRemoval_0 w_w_o0_lastRemoval_1 h0 n0 _ T342.heap _
  exact ⟨rfl, N342, e342⟩
theorem own_d11_0 : decode prog_2_method_3_code 0 = .ok (.aload_n 0, 1) := by decide +kernel
theorem own_d11_1 : decode prog_2_method_3_code 1 = .ok (.aload_n 0, 1) := by decide +kernel
theorem own_d11_2 : decode prog_2_method_3_code 2 = .ok (.getfield 13, 3) := by decide +kernel
theorem own_d11_5 : decode prog_2_method_3_code 5 = .ok (.iload_n 1, 1) := by decide +kernel
theorem own_d11_6 : decode prog_2_method_3_code 6 = .ok (.invokevirtual 37, 3) := by decide +kernel
theorem own_d11_9 : decode prog_2_method_3_code 9 = .ok (.lreturn, 1) := by decide +kernel
def own_Q11_0 (Z : State) (o0 : Addr) (w_o0_revisions : Addr) (w_o0_lastWipeOut : Addr) (k_w_o0_revisions : ClassId) (w_w_o0_revisions_0 : Int64) (w_w_o0_revisions_1 : Int64) (k_w_o0_lastWipeOut : ClassId) (w_w_o0_lastWipeOut_0 : Int64) (w_w_o0_lastWipeOut_1 : Int64) (h0 : Heap) (n0 : Nat) (v : Option Value) (h : Heap) (L : List Loc) : Prop := v = some (.long (own_F10_0 w_w_o0_revisions_0 w_w_o0_lastWipeOut_0)) ∧ Fr n0 L ∧ h = h0
theorem own_pn_rm11_0 : plainName "com/example/arcwise/arcwise/adaptation/History" = true := by first | (simp [plainName, overriddenIn]; done) | decide +kernel
theorem own_ef_rm11_0 (m : MethodId) (o0 : Addr) : entryFrame m #[(.ref o0), (.int (0 : Int32))] 2 = mkF m 0 #[.val (.ref o0), .val (.int (0 : Int32))] [] := by first | (simp [entryFrame, mkF, argsToLocals, Value.category]; done) | rfl
set_option maxRecDepth 65536 in
set_option maxHeartbeats 40000000 in
theorem own_rm11_0 (l : Launch) (Z : State) (a0 : Array Value) (hw : ∀ d ∈ tables_1, d.before a0 Z = true) (ws : List Jvm.Cond) (o0 : Addr) (w_o0_revisions : Addr) (w_o0_lastWipeOut : Addr) (k_w_o0_revisions : ClassId) (w_w_o0_revisions_0 : Int64) (w_w_o0_revisions_1 : Int64) (k_w_o0_lastWipeOut : ClassId) (w_w_o0_lastWipeOut_0 : Int64) (w_w_o0_lastWipeOut_1 : Int64) (h0 : Heap) (n0 : Nat) (Z0 : n0 ≤ h0.size) (E_o0 : Exa Z h0 o0 "com/example/arcwise/arcwise/adaptation/History") (F_o0_revisions : Fld Z h0 o0 "com/example/arcwise/arcwise/adaptation/History" "revisions" "[J" (.ref w_o0_revisions)) (F_o0_lastWipeOut : Fld Z h0 o0 "com/example/arcwise/arcwise/adaptation/History" "lastWipeOut" "[J" (.ref w_o0_lastWipeOut)) (V_w_o0_revisions : Arv Z h0 w_o0_revisions k_w_o0_revisions .long (2 : Int32) [(.long w_w_o0_revisions_0), (.long w_w_o0_revisions_1)] (.long (0 : Int64))) (V_w_o0_lastWipeOut : Arv Z h0 w_o0_lastWipeOut k_w_o0_lastWipeOut .long (2 : Int32) [(.long w_w_o0_lastWipeOut_0), (.long w_w_o0_lastWipeOut_1)] (.long (0 : Int64))) :
    MetFree l (⟨"com/example/arcwise/arcwise/adaptation/History", "sinceWipeOut", "(I)J"⟩ : MethodName) (head1 (Jvm.Cond.code (⟨"com/example/arcwise/arcwise/adaptation/History", "sinceWipeOut", "(I)J"⟩ : MethodName) prog_2_method_3_code 2 (some .long) :: ws) ({ frames := 1, cells := 0, slots := 0, locals := 14 } : Room)) (fun a U => a = #[(.ref o0), (.int (0 : Int32))] ∧ Z.Warmed39 U.vm ∧ U.heap = h0) (fun _ _ _ _ _ => True) (fun _ U o U' => ∃ v L, o = .returned v ∧ own_Q11_0 Z o0 w_o0_revisions w_o0_lastWipeOut k_w_o0_revisions w_w_o0_revisions_0 w_w_o0_revisions_1 k_w_o0_lastWipeOut w_w_o0_lastWipeOut_0 w_w_o0_lastWipeOut_1 h0 n0 v U'.heap L ∧ FrameEnd U o U' L ({ frames := 1, cells := 0, slots := 0, locals := 14 } : Room).cells ({ frames := 1, cells := 0, slots := 0, locals := 14 } : Room).slots) := by
  refine MetFree.of_bodySF (plainFor_of_name own_pn_rm11_0) hisR ?_
  intro p e s m args below meth c s₁ Bd hml0 hP hK
  obtain ⟨rfl, hZ, hh⟩ := hP
  have hx := Bd.exec
  have hby := Bd.bytes
  have hml : c.maxLocals = 2 := hml0
  have hown : s.vm.findClass "com/example/arcwise/arcwise/adaptation/History" = some m.cls := findClass_of_methodNamed Bd.named
  have hnm := (name_of_methodNamed Bd.named Bd.method).1
  have X0 : Stand p l e ({ frames := 1, cells := 0, slots := 0, locals := 14 } : Room) s m #[(.ref o0), (.int (0 : Int32))] below meth c s₁ [] 0 0 := Stand.of_body Bd
  have e0 : s₁.heap = h0 := by rw [← hh, Bd.state]; rfl
  have N0 := Fr.nil n0
  show own_End p e below s (own_Q11_0 Z o0 w_o0_revisions w_o0_lastWipeOut k_w_o0_revisions w_w_o0_revisions_0 w_w_o0_revisions_1 k_w_o0_lastWipeOut w_w_o0_lastWipeOut_0 w_w_o0_lastWipeOut_1 h0 n0) ({ frames := 1, cells := 0, slots := 0, locals := 14 } : Room).cells ({ frames := 1, cells := 0, slots := 0, locals := 14 } : Room).slots (s₁.setTop (entryFrame m #[(.ref o0), (.int (0 : Int32))] 2))
  rw [own_ef_rm11_0]
  refine own_aloadN X0 hx (hb hby own_d11_0) rfl rfl (q := 1) rfl ?_
  refine own_aloadN X0 hx (hb hby own_d11_1) rfl rfl (q := 2) rfl ?_
  obtain ⟨T344, X344, e344, st344⟩ := getF X0 hx hZ hown (host := "") (Or.inl (hw _ (List.mem_of_getElem? (i := 16) rfl))) Via.refl e0 F_o0_lastWipeOut (g := (mkF m 2 #[.val (.ref o0), .val (.int (0 : Int32))] [(.ref o0), (.ref o0)])) rfl rfl (hb hby own_d11_2)
  refine own_back st344 ?_
  show own_End p e below s _ _ _ (T344.setTop (mkF m 5 #[.val (.ref o0), .val (.int (0 : Int32))] [(.ref w_o0_lastWipeOut), (.ref o0)]))
  refine own_iloadN X344 hx (hb hby own_d11_5) rfl (q := 6) rfl ?_
  obtain ⟨cq345, q345, q345'⟩ := E_o0.cell
  obtain ⟨T345, Lc345, L345, X345, N345, hQ345, st345⟩ := own_shutV (val := some (.long (own_F10_0 w_w_o0_revisions_0 w_w_o0_lastWipeOut_0))) (Q := own_Q10_0 Z o0 w_o0_lastWipeOut w_o0_revisions k_w_o0_revisions w_w_o0_revisions_0 w_w_o0_revisions_1 k_w_o0_lastWipeOut w_w_o0_lastWipeOut_0 w_w_o0_lastWipeOut_1 h0 n0) (rc := 0) (rs := 0) N0 (fun _ _ _ q => ⟨q.1, q.2.1⟩) (X344.privateBack hx (y := (⟨"com/example/arcwise/arcwise/adaptation/History", "since", "([JI)J"⟩ : MethodName)) hown (mvT hZ (hw _ (List.mem_of_getElem? (i := 52) rfl))) (mvT hZ (hw _ (List.mem_of_getElem? (i := 53) rfl))) (own_selfsel (mvT hZ (hw _ (List.mem_of_getElem? (i := 5) rfl))) (Cond.privateMethod_at (mvP hZ (hw _ (List.mem_of_getElem? (i := 54) rfl)) (args := #[]))) (mvT hZ (hw _ (List.mem_of_getElem? (i := 53) rfl))) (by decide)) (Cond.privateMethod_at (mvP hZ (hw _ (List.mem_of_getElem? (i := 54) rfl)) (args := #[]))) (mvT hZ (hw _ (List.mem_of_getElem? (i := 55) rfl))) (by decide) (backOf (W := 0) (own_rm10_0 l Z a0 hw [] o0 w_o0_lastWipeOut w_o0_revisions k_w_o0_revisions w_w_o0_revisions_0 w_w_o0_revisions_1 k_w_o0_lastWipeOut w_w_o0_lastWipeOut_0 w_w_o0_lastWipeOut_1 h0 n0 Z0 E_o0 F_o0_revisions V_w_o0_revisions V_w_o0_lastWipeOut) hZ (hw _ (List.mem_of_getElem? (i := 55) rfl)) (hw _ (List.mem_of_getElem? (i := 6) rfl)) (by decide) (by decide)) (g := (mkF m 6 #[.val (.ref o0), .val (.int (0 : Int32))] [(.int (0 : Int32)), (.ref w_o0_lastWipeOut), (.ref o0)])) rfl (by rw [hml]; rfl) (Steps.refl _) (a := o0) (by rw [e344]; exact q345) q345' (argsL := [(.ref w_o0_lastWipeOut), (.int (0 : Int32))]) (rest := []) (lenOf own_pd2 rfl) rfl (by show 2 * 0 + _ ≤ _; exact Nat.le_of_eq rfl) (hb hby own_d11_6) (fun _ _ => ⟨rfl, e344, (by decide : 0 + 0 ≤ _), (by decide : 0 + 0 ≤ _)⟩))
  obtain ⟨-, -, e345⟩ := hQ345
  refine own_via st345 ?_
  show own_End p e below s _ _ _ (T345.setTop (mkF m 9 #[.val (.ref o0), .val (.int (0 : Int32))] [(.long (own_F10_0 w_w_o0_revisions_0 w_w_o0_lastWipeOut_0))]))
  refine own_retJ X345 hx Bd.returns Bd.notSynchronized (by decide) (by decide) (hb hby own_d11_9) ?_
  show own_Q11_0 Z o0 w_o0_revisions w_o0_lastWipeOut k_w_o0_revisions w_w_o0_revisions_0 w_w_o0_revisions_1 k_w_o0_lastWipeOut w_w_o0_lastWipeOut_0 w_w_o0_lastWipeOut_1 h0 n0 _ T345.heap _
  exact ⟨rfl, N345, e345⟩
theorem own_d12_0 : decode prog_2_method_5_code 0 = .ok (.aload_n 0, 1) := by decide +kernel
theorem own_d12_1 : decode prog_2_method_5_code 1 = .ok (.aload_n 0, 1) := by decide +kernel
theorem own_d12_2 : decode prog_2_method_5_code 2 = .ok (.getfield 19, 3) := by decide +kernel
theorem own_d12_5 : decode prog_2_method_5_code 5 = .ok (.iload_n 1, 1) := by decide +kernel
theorem own_d12_6 : decode prog_2_method_5_code 6 = .ok (.invokevirtual 37, 3) := by decide +kernel
theorem own_d12_9 : decode prog_2_method_5_code 9 = .ok (.lreturn, 1) := by decide +kernel
def own_Q12_0 (Z : State) (o0 : Addr) (w_o0_revisions : Addr) (w_o0_lastStrongRemoval : Addr) (k_w_o0_revisions : ClassId) (w_w_o0_revisions_0 : Int64) (w_w_o0_revisions_1 : Int64) (k_w_o0_lastStrongRemoval : ClassId) (w_w_o0_lastStrongRemoval_0 : Int64) (w_w_o0_lastStrongRemoval_1 : Int64) (h0 : Heap) (n0 : Nat) (v : Option Value) (h : Heap) (L : List Loc) : Prop := v = some (.long (own_F10_0 w_w_o0_revisions_0 w_w_o0_lastStrongRemoval_0)) ∧ Fr n0 L ∧ h = h0
theorem own_pn_rm12_0 : plainName "com/example/arcwise/arcwise/adaptation/History" = true := by first | (simp [plainName, overriddenIn]; done) | decide +kernel
theorem own_ef_rm12_0 (m : MethodId) (o0 : Addr) : entryFrame m #[(.ref o0), (.int (0 : Int32))] 2 = mkF m 0 #[.val (.ref o0), .val (.int (0 : Int32))] [] := by first | (simp [entryFrame, mkF, argsToLocals, Value.category]; done) | rfl
set_option maxRecDepth 65536 in
set_option maxHeartbeats 40000000 in
theorem own_rm12_0 (l : Launch) (Z : State) (a0 : Array Value) (hw : ∀ d ∈ tables_1, d.before a0 Z = true) (ws : List Jvm.Cond) (o0 : Addr) (w_o0_revisions : Addr) (w_o0_lastStrongRemoval : Addr) (k_w_o0_revisions : ClassId) (w_w_o0_revisions_0 : Int64) (w_w_o0_revisions_1 : Int64) (k_w_o0_lastStrongRemoval : ClassId) (w_w_o0_lastStrongRemoval_0 : Int64) (w_w_o0_lastStrongRemoval_1 : Int64) (h0 : Heap) (n0 : Nat) (Z0 : n0 ≤ h0.size) (E_o0 : Exa Z h0 o0 "com/example/arcwise/arcwise/adaptation/History") (F_o0_revisions : Fld Z h0 o0 "com/example/arcwise/arcwise/adaptation/History" "revisions" "[J" (.ref w_o0_revisions)) (F_o0_lastStrongRemoval : Fld Z h0 o0 "com/example/arcwise/arcwise/adaptation/History" "lastStrongRemoval" "[J" (.ref w_o0_lastStrongRemoval)) (V_w_o0_revisions : Arv Z h0 w_o0_revisions k_w_o0_revisions .long (2 : Int32) [(.long w_w_o0_revisions_0), (.long w_w_o0_revisions_1)] (.long (0 : Int64))) (V_w_o0_lastStrongRemoval : Arv Z h0 w_o0_lastStrongRemoval k_w_o0_lastStrongRemoval .long (2 : Int32) [(.long w_w_o0_lastStrongRemoval_0), (.long w_w_o0_lastStrongRemoval_1)] (.long (0 : Int64))) :
    MetFree l (⟨"com/example/arcwise/arcwise/adaptation/History", "sinceStrongRemoval", "(I)J"⟩ : MethodName) (head1 (Jvm.Cond.code (⟨"com/example/arcwise/arcwise/adaptation/History", "sinceStrongRemoval", "(I)J"⟩ : MethodName) prog_2_method_5_code 2 (some .long) :: ws) ({ frames := 1, cells := 0, slots := 0, locals := 14 } : Room)) (fun a U => a = #[(.ref o0), (.int (0 : Int32))] ∧ Z.Warmed39 U.vm ∧ U.heap = h0) (fun _ _ _ _ _ => True) (fun _ U o U' => ∃ v L, o = .returned v ∧ own_Q12_0 Z o0 w_o0_revisions w_o0_lastStrongRemoval k_w_o0_revisions w_w_o0_revisions_0 w_w_o0_revisions_1 k_w_o0_lastStrongRemoval w_w_o0_lastStrongRemoval_0 w_w_o0_lastStrongRemoval_1 h0 n0 v U'.heap L ∧ FrameEnd U o U' L ({ frames := 1, cells := 0, slots := 0, locals := 14 } : Room).cells ({ frames := 1, cells := 0, slots := 0, locals := 14 } : Room).slots) := by
  refine MetFree.of_bodySF (plainFor_of_name own_pn_rm12_0) hisR ?_
  intro p e s m args below meth c s₁ Bd hml0 hP hK
  obtain ⟨rfl, hZ, hh⟩ := hP
  have hx := Bd.exec
  have hby := Bd.bytes
  have hml : c.maxLocals = 2 := hml0
  have hown : s.vm.findClass "com/example/arcwise/arcwise/adaptation/History" = some m.cls := findClass_of_methodNamed Bd.named
  have hnm := (name_of_methodNamed Bd.named Bd.method).1
  have X0 : Stand p l e ({ frames := 1, cells := 0, slots := 0, locals := 14 } : Room) s m #[(.ref o0), (.int (0 : Int32))] below meth c s₁ [] 0 0 := Stand.of_body Bd
  have e0 : s₁.heap = h0 := by rw [← hh, Bd.state]; rfl
  have N0 := Fr.nil n0
  show own_End p e below s (own_Q12_0 Z o0 w_o0_revisions w_o0_lastStrongRemoval k_w_o0_revisions w_w_o0_revisions_0 w_w_o0_revisions_1 k_w_o0_lastStrongRemoval w_w_o0_lastStrongRemoval_0 w_w_o0_lastStrongRemoval_1 h0 n0) ({ frames := 1, cells := 0, slots := 0, locals := 14 } : Room).cells ({ frames := 1, cells := 0, slots := 0, locals := 14 } : Room).slots (s₁.setTop (entryFrame m #[(.ref o0), (.int (0 : Int32))] 2))
  rw [own_ef_rm12_0]
  refine own_aloadN X0 hx (hb hby own_d12_0) rfl rfl (q := 1) rfl ?_
  refine own_aloadN X0 hx (hb hby own_d12_1) rfl rfl (q := 2) rfl ?_
  obtain ⟨T347, X347, e347, st347⟩ := getF X0 hx hZ hown (host := "") (Or.inl (hw _ (List.mem_of_getElem? (i := 20) rfl))) Via.refl e0 F_o0_lastStrongRemoval (g := (mkF m 2 #[.val (.ref o0), .val (.int (0 : Int32))] [(.ref o0), (.ref o0)])) rfl rfl (hb hby own_d12_2)
  refine own_back st347 ?_
  show own_End p e below s _ _ _ (T347.setTop (mkF m 5 #[.val (.ref o0), .val (.int (0 : Int32))] [(.ref w_o0_lastStrongRemoval), (.ref o0)]))
  refine own_iloadN X347 hx (hb hby own_d12_5) rfl (q := 6) rfl ?_
  obtain ⟨cq348, q348, q348'⟩ := E_o0.cell
  obtain ⟨T348, Lc348, L348, X348, N348, hQ348, st348⟩ := own_shutV (val := some (.long (own_F10_0 w_w_o0_revisions_0 w_w_o0_lastStrongRemoval_0))) (Q := own_Q10_0 Z o0 w_o0_lastStrongRemoval w_o0_revisions k_w_o0_revisions w_w_o0_revisions_0 w_w_o0_revisions_1 k_w_o0_lastStrongRemoval w_w_o0_lastStrongRemoval_0 w_w_o0_lastStrongRemoval_1 h0 n0) (rc := 0) (rs := 0) N0 (fun _ _ _ q => ⟨q.1, q.2.1⟩) (X347.privateBack hx (y := (⟨"com/example/arcwise/arcwise/adaptation/History", "since", "([JI)J"⟩ : MethodName)) hown (mvT hZ (hw _ (List.mem_of_getElem? (i := 52) rfl))) (mvT hZ (hw _ (List.mem_of_getElem? (i := 53) rfl))) (own_selfsel (mvT hZ (hw _ (List.mem_of_getElem? (i := 5) rfl))) (Cond.privateMethod_at (mvP hZ (hw _ (List.mem_of_getElem? (i := 54) rfl)) (args := #[]))) (mvT hZ (hw _ (List.mem_of_getElem? (i := 53) rfl))) (by decide)) (Cond.privateMethod_at (mvP hZ (hw _ (List.mem_of_getElem? (i := 54) rfl)) (args := #[]))) (mvT hZ (hw _ (List.mem_of_getElem? (i := 55) rfl))) (by decide) (backOf (W := 0) (own_rm10_0 l Z a0 hw [] o0 w_o0_lastStrongRemoval w_o0_revisions k_w_o0_revisions w_w_o0_revisions_0 w_w_o0_revisions_1 k_w_o0_lastStrongRemoval w_w_o0_lastStrongRemoval_0 w_w_o0_lastStrongRemoval_1 h0 n0 Z0 E_o0 F_o0_revisions V_w_o0_revisions V_w_o0_lastStrongRemoval) hZ (hw _ (List.mem_of_getElem? (i := 55) rfl)) (hw _ (List.mem_of_getElem? (i := 6) rfl)) (by decide) (by decide)) (g := (mkF m 6 #[.val (.ref o0), .val (.int (0 : Int32))] [(.int (0 : Int32)), (.ref w_o0_lastStrongRemoval), (.ref o0)])) rfl (by rw [hml]; rfl) (Steps.refl _) (a := o0) (by rw [e347]; exact q348) q348' (argsL := [(.ref w_o0_lastStrongRemoval), (.int (0 : Int32))]) (rest := []) (lenOf own_pd2 rfl) rfl (by show 2 * 0 + _ ≤ _; exact Nat.le_of_eq rfl) (hb hby own_d12_6) (fun _ _ => ⟨rfl, e347, (by decide : 0 + 0 ≤ _), (by decide : 0 + 0 ≤ _)⟩))
  obtain ⟨-, -, e348⟩ := hQ348
  refine own_via st348 ?_
  show own_End p e below s _ _ _ (T348.setTop (mkF m 9 #[.val (.ref o0), .val (.int (0 : Int32))] [(.long (own_F10_0 w_w_o0_revisions_0 w_w_o0_lastStrongRemoval_0))]))
  refine own_retJ X348 hx Bd.returns Bd.notSynchronized (by decide) (by decide) (hb hby own_d12_9) ?_
  show own_Q12_0 Z o0 w_o0_revisions w_o0_lastStrongRemoval k_w_o0_revisions w_w_o0_revisions_0 w_w_o0_revisions_1 k_w_o0_lastStrongRemoval w_w_o0_lastStrongRemoval_0 w_w_o0_lastStrongRemoval_1 h0 n0 _ T348.heap _
  exact ⟨rfl, N348, e348⟩
def own_G6_1_w_o0_lastWipeOut_1 (p4 : Int32) (w_w_o0_revisions_1 : Int64) (w_w_o0_lastWipeOut_1 : Int64) : Int64 := (if p4 = (0 : Int32) then w_w_o0_lastWipeOut_1 else (w_w_o0_revisions_1 + (1 : Int64)))
def own_G6_1_w_o0_lastRemoval_1 (p3 : Int32) (w_w_o0_revisions_1 : Int64) (w_w_o0_lastRemoval_1 : Int64) : Int64 := (if p3 = (0 : Int32) then w_w_o0_lastRemoval_1 else (w_w_o0_revisions_1 + (1 : Int64)))
def own_G6_1_w_o0_lastStrongRemoval_1 (p4 : Int32) (p5 : Int32) (w_w_o0_revisions_1 : Int64) (w_w_o0_lastStrongRemoval_1 : Int64) : Int64 := (if p4 = (0 : Int32) then (if p5 = (0 : Int32) then w_w_o0_lastStrongRemoval_1 else (w_w_o0_revisions_1 + (1 : Int64))) else (w_w_o0_revisions_1 + (1 : Int64)))
def own_Q6_1 (Z : State) (o0 : Addr) (p2 : Int32) (p3 : Int32) (p4 : Int32) (p5 : Int32) (w_o0_revisions : Addr) (w_o0_lastWipeOut : Addr) (w_o0_lastRemoval : Addr) (w_o0_lastStrongRemoval : Addr) (w_o0_lastPosition : Addr) (k_w_o0_revisions : ClassId) (w_w_o0_revisions_0 : Int64) (w_w_o0_revisions_1 : Int64) (k_w_o0_lastWipeOut : ClassId) (w_w_o0_lastWipeOut_0 : Int64) (w_w_o0_lastWipeOut_1 : Int64) (k_w_o0_lastRemoval : ClassId) (w_w_o0_lastRemoval_0 : Int64) (w_w_o0_lastRemoval_1 : Int64) (k_w_o0_lastStrongRemoval : ClassId) (w_w_o0_lastStrongRemoval_0 : Int64) (w_w_o0_lastStrongRemoval_1 : Int64) (k_w_o0_lastPosition : ClassId) (w_w_o0_lastPosition_0 : Int32) (w_w_o0_lastPosition_1 : Int32) (h0 : Heap) (n0 : Nat) (v : Option Value) (h : Heap) (L : List Loc) : Prop := v = none ∧ Fr n0 L ∧ Keep h0 h [w_o0_revisions, w_o0_lastWipeOut, w_o0_lastRemoval, w_o0_lastStrongRemoval, w_o0_lastPosition] ∧ Arv Z h w_o0_revisions k_w_o0_revisions .long (2 : Int32) [(.long w_w_o0_revisions_0), (.long (w_w_o0_revisions_1 + (1 : Int64)))] (.long (0 : Int64)) ∧ Arv Z h w_o0_lastWipeOut k_w_o0_lastWipeOut .long (2 : Int32) [(.long w_w_o0_lastWipeOut_0), (.long (own_G6_1_w_o0_lastWipeOut_1 p4 w_w_o0_revisions_1 w_w_o0_lastWipeOut_1))] (.long (0 : Int64)) ∧ Arv Z h w_o0_lastRemoval k_w_o0_lastRemoval .long (2 : Int32) [(.long w_w_o0_lastRemoval_0), (.long (own_G6_1_w_o0_lastRemoval_1 p3 w_w_o0_revisions_1 w_w_o0_lastRemoval_1))] (.long (0 : Int64)) ∧ Arv Z h w_o0_lastStrongRemoval k_w_o0_lastStrongRemoval .long (2 : Int32) [(.long w_w_o0_lastStrongRemoval_0), (.long (own_G6_1_w_o0_lastStrongRemoval_1 p4 p5 w_w_o0_revisions_1 w_w_o0_lastStrongRemoval_1))] (.long (0 : Int64)) ∧ Arv Z h w_o0_lastPosition k_w_o0_lastPosition .int (2 : Int32) [(.int w_w_o0_lastPosition_0), (.int p2)] (.int (0 : Int32))
theorem own_pn_rm6_1 : plainName "com/example/arcwise/arcwise/adaptation/History" = true := by first | (simp [plainName, overriddenIn]; done) | decide +kernel
theorem own_ef_rm6_1 (m : MethodId) (o0 : Addr) (p2 : Int32) (p3 : Int32) (p4 : Int32) (p5 : Int32) : entryFrame m #[(.ref o0), (.int (1 : Int32)), (.int p2), (.int p3), (.int p4), (.int p5)] 8 = mkF m 0 #[.val (.ref o0), .val (.int (1 : Int32)), .val (.int p2), .val (.int p3), .val (.int p4), .val (.int p5), .unset, .unset] [] := by first | (simp [entryFrame, mkF, argsToLocals, Value.category]; done) | rfl
set_option maxRecDepth 65536 in
set_option maxHeartbeats 40000000 in
theorem own_rm6_1 (l : Launch) (Z : State) (a0 : Array Value) (hw : ∀ d ∈ tables_1, d.before a0 Z = true) (ws : List Jvm.Cond) (o0 : Addr) (p2 : Int32) (p3 : Int32) (p4 : Int32) (p5 : Int32) (w_o0_revisions : Addr) (w_o0_lastWipeOut : Addr) (w_o0_lastRemoval : Addr) (w_o0_lastStrongRemoval : Addr) (w_o0_lastPosition : Addr) (k_w_o0_revisions : ClassId) (w_w_o0_revisions_0 : Int64) (w_w_o0_revisions_1 : Int64) (k_w_o0_lastWipeOut : ClassId) (w_w_o0_lastWipeOut_0 : Int64) (w_w_o0_lastWipeOut_1 : Int64) (k_w_o0_lastRemoval : ClassId) (w_w_o0_lastRemoval_0 : Int64) (w_w_o0_lastRemoval_1 : Int64) (k_w_o0_lastStrongRemoval : ClassId) (w_w_o0_lastStrongRemoval_0 : Int64) (w_w_o0_lastStrongRemoval_1 : Int64) (k_w_o0_lastPosition : ClassId) (w_w_o0_lastPosition_0 : Int32) (w_w_o0_lastPosition_1 : Int32) (h0 : Heap) (n0 : Nat) (Z0 : n0 ≤ h0.size) (E_o0 : Exa Z h0 o0 "com/example/arcwise/arcwise/adaptation/History") (F_o0_revisions : Fld Z h0 o0 "com/example/arcwise/arcwise/adaptation/History" "revisions" "[J" (.ref w_o0_revisions)) (F_o0_lastWipeOut : Fld Z h0 o0 "com/example/arcwise/arcwise/adaptation/History" "lastWipeOut" "[J" (.ref w_o0_lastWipeOut)) (F_o0_lastRemoval : Fld Z h0 o0 "com/example/arcwise/arcwise/adaptation/History" "lastRemoval" "[J" (.ref w_o0_lastRemoval)) (F_o0_lastStrongRemoval : Fld Z h0 o0 "com/example/arcwise/arcwise/adaptation/History" "lastStrongRemoval" "[J" (.ref w_o0_lastStrongRemoval)) (F_o0_lastPosition : Fld Z h0 o0 "com/example/arcwise/arcwise/adaptation/History" "lastPosition" "[I" (.ref w_o0_lastPosition)) (V_w_o0_revisions : Arv Z h0 w_o0_revisions k_w_o0_revisions .long (2 : Int32) [(.long w_w_o0_revisions_0), (.long w_w_o0_revisions_1)] (.long (0 : Int64))) (V_w_o0_lastWipeOut : Arv Z h0 w_o0_lastWipeOut k_w_o0_lastWipeOut .long (2 : Int32) [(.long w_w_o0_lastWipeOut_0), (.long w_w_o0_lastWipeOut_1)] (.long (0 : Int64))) (V_w_o0_lastRemoval : Arv Z h0 w_o0_lastRemoval k_w_o0_lastRemoval .long (2 : Int32) [(.long w_w_o0_lastRemoval_0), (.long w_w_o0_lastRemoval_1)] (.long (0 : Int64))) (V_w_o0_lastStrongRemoval : Arv Z h0 w_o0_lastStrongRemoval k_w_o0_lastStrongRemoval .long (2 : Int32) [(.long w_w_o0_lastStrongRemoval_0), (.long w_w_o0_lastStrongRemoval_1)] (.long (0 : Int64))) (V_w_o0_lastPosition : Arv Z h0 w_o0_lastPosition k_w_o0_lastPosition .int (2 : Int32) [(.int w_w_o0_lastPosition_0), (.int w_w_o0_lastPosition_1)] (.int (0 : Int32))) (ne_o0_w_o0_revisions : o0 ≠ w_o0_revisions) (ne_o0_w_o0_lastWipeOut : o0 ≠ w_o0_lastWipeOut) (ne_o0_w_o0_lastRemoval : o0 ≠ w_o0_lastRemoval) (ne_o0_w_o0_lastStrongRemoval : o0 ≠ w_o0_lastStrongRemoval) (ne_o0_w_o0_lastPosition : o0 ≠ w_o0_lastPosition) (ne_w_o0_revisions_w_o0_lastWipeOut : w_o0_revisions ≠ w_o0_lastWipeOut) (ne_w_o0_revisions_w_o0_lastRemoval : w_o0_revisions ≠ w_o0_lastRemoval) (ne_w_o0_revisions_w_o0_lastStrongRemoval : w_o0_revisions ≠ w_o0_lastStrongRemoval) (ne_w_o0_revisions_w_o0_lastPosition : w_o0_revisions ≠ w_o0_lastPosition) (ne_w_o0_lastWipeOut_w_o0_lastRemoval : w_o0_lastWipeOut ≠ w_o0_lastRemoval) (ne_w_o0_lastWipeOut_w_o0_lastStrongRemoval : w_o0_lastWipeOut ≠ w_o0_lastStrongRemoval) (ne_w_o0_lastWipeOut_w_o0_lastPosition : w_o0_lastWipeOut ≠ w_o0_lastPosition) (ne_w_o0_lastRemoval_w_o0_lastStrongRemoval : w_o0_lastRemoval ≠ w_o0_lastStrongRemoval) (ne_w_o0_lastRemoval_w_o0_lastPosition : w_o0_lastRemoval ≠ w_o0_lastPosition) (ne_w_o0_lastStrongRemoval_w_o0_lastPosition : w_o0_lastStrongRemoval ≠ w_o0_lastPosition) (g_w_o0_revisions : n0 ≤ w_o0_revisions) (g_w_o0_lastWipeOut : n0 ≤ w_o0_lastWipeOut) (g_w_o0_lastRemoval : n0 ≤ w_o0_lastRemoval) (g_w_o0_lastStrongRemoval : n0 ≤ w_o0_lastStrongRemoval) (g_w_o0_lastPosition : n0 ≤ w_o0_lastPosition) :
    MetFree l (⟨"com/example/arcwise/arcwise/adaptation/History", "revised", "(IIZZZ)V"⟩ : MethodName) (head1 (Jvm.Cond.code (⟨"com/example/arcwise/arcwise/adaptation/History", "revised", "(IIZZZ)V"⟩ : MethodName) prog_2_method_2_code 8 none :: ws) ({ frames := 0, cells := 0, slots := 0, locals := 0 } : Room)) (fun a U => a = #[(.ref o0), (.int (1 : Int32)), (.int p2), (.int p3), (.int p4), (.int p5)] ∧ Z.Warmed39 U.vm ∧ U.heap = h0) (fun _ _ _ _ _ => True) (fun _ U o U' => ∃ v L, o = .returned v ∧ own_Q6_1 Z o0 p2 p3 p4 p5 w_o0_revisions w_o0_lastWipeOut w_o0_lastRemoval w_o0_lastStrongRemoval w_o0_lastPosition k_w_o0_revisions w_w_o0_revisions_0 w_w_o0_revisions_1 k_w_o0_lastWipeOut w_w_o0_lastWipeOut_0 w_w_o0_lastWipeOut_1 k_w_o0_lastRemoval w_w_o0_lastRemoval_0 w_w_o0_lastRemoval_1 k_w_o0_lastStrongRemoval w_w_o0_lastStrongRemoval_0 w_w_o0_lastStrongRemoval_1 k_w_o0_lastPosition w_w_o0_lastPosition_0 w_w_o0_lastPosition_1 h0 n0 v U'.heap L ∧ FrameEnd U o U' L ({ frames := 0, cells := 0, slots := 0, locals := 0 } : Room).cells ({ frames := 0, cells := 0, slots := 0, locals := 0 } : Room).slots) := by
  refine MetFree.of_bodySF (plainFor_of_name own_pn_rm6_1) hisR ?_
  intro p e s m args below meth c s₁ Bd hml0 hP hK
  obtain ⟨rfl, hZ, hh⟩ := hP
  have hx := Bd.exec
  have hby := Bd.bytes
  have hml : c.maxLocals = 8 := hml0
  have hown : s.vm.findClass "com/example/arcwise/arcwise/adaptation/History" = some m.cls := findClass_of_methodNamed Bd.named
  have hnm := (name_of_methodNamed Bd.named Bd.method).1
  have X0 : Stand p l e ({ frames := 0, cells := 0, slots := 0, locals := 0 } : Room) s m #[(.ref o0), (.int (1 : Int32)), (.int p2), (.int p3), (.int p4), (.int p5)] below meth c s₁ [] 0 0 := Stand.of_body Bd
  have e0 : s₁.heap = h0 := by rw [← hh, Bd.state]; rfl
  have N0 := Fr.nil n0
  show own_End p e below s (own_Q6_1 Z o0 p2 p3 p4 p5 w_o0_revisions w_o0_lastWipeOut w_o0_lastRemoval w_o0_lastStrongRemoval w_o0_lastPosition k_w_o0_revisions w_w_o0_revisions_0 w_w_o0_revisions_1 k_w_o0_lastWipeOut w_w_o0_lastWipeOut_0 w_w_o0_lastWipeOut_1 k_w_o0_lastRemoval w_w_o0_lastRemoval_0 w_w_o0_lastRemoval_1 k_w_o0_lastStrongRemoval w_w_o0_lastStrongRemoval_0 w_w_o0_lastStrongRemoval_1 k_w_o0_lastPosition w_w_o0_lastPosition_0 w_w_o0_lastPosition_1 h0 n0) ({ frames := 0, cells := 0, slots := 0, locals := 0 } : Room).cells ({ frames := 0, cells := 0, slots := 0, locals := 0 } : Room).slots (s₁.setTop (entryFrame m #[(.ref o0), (.int (1 : Int32)), (.int p2), (.int p3), (.int p4), (.int p5)] 8))
  rw [own_ef_rm6_1]
  refine own_aloadN X0 hx (hb hby own_d6_0) rfl rfl (q := 1) rfl ?_
  obtain ⟨T350, X350, e350, st350⟩ := getF X0 hx hZ hown (host := "") (Or.inl (hw _ (List.mem_of_getElem? (i := 14) rfl))) Via.refl e0 F_o0_revisions (g := (mkF m 1 #[.val (.ref o0), .val (.int (1 : Int32)), .val (.int p2), .val (.int p3), .val (.int p4), .val (.int p5), .unset, .unset] [(.ref o0)])) rfl rfl (hb hby own_d6_1)
  refine own_back st350 ?_
  show own_End p e below s _ _ _ (T350.setTop (mkF m 4 #[.val (.ref o0), .val (.int (1 : Int32)), .val (.int p2), .val (.int p3), .val (.int p4), .val (.int p5), .unset, .unset] [(.ref w_o0_revisions)]))
  refine own_iloadN X350 hx (hb hby own_d6_4) rfl (q := 5) rfl ?_
  refine own_back (fun _ k => ?_) (b := T350.setTop (mkF m 6 #[.val (.ref o0), .val (.int (1 : Int32)), .val (.int p2), .val (.int p3), .val (.int p4), .val (.int p5), .unset, .unset] [(.int (1 : Int32)), (.ref w_o0_revisions), (.int (1 : Int32)), (.ref w_o0_revisions)])) ?_
  · jvm_step X350.here [X350.here.top, hx, (hb hby own_d6_5), Value.category]
    exact k
  obtain ⟨cl351, Ar351, q351, S351, N351v, H351, G351⟩ := id V_w_o0_revisions
  have hin351 : ¬ ((1 : Int32) < 0 ∨ cl351.slots.size ≤ ((1 : Int32)).toNatClampNeg) := inb_of S351 ⟨by decide, by decide⟩
  refine own_back (X350.laload hx (j := (1 : Int32)) (v := (.long w_w_o0_revisions_1)) (by rw [e350]; exact Ar351.1) (State.isArrayOf_alike hZ.alike Ar351.2.1) Ar351.2.2 hin351 (Has.at H351 hin351 rfl) (g := (mkF m 6 #[.val (.ref o0), .val (.int (1 : Int32)), .val (.int p2), .val (.int p3), .val (.int p4), .val (.int p5), .unset, .unset] [(.int (1 : Int32)), (.ref w_o0_revisions), (.int (1 : Int32)), (.ref w_o0_revisions)])) rfl rfl (hb hby own_d6_6)) ?_
  show own_End p e below s _ _ _ (T350.setTop (mkF m 7 #[.val (.ref o0), .val (.int (1 : Int32)), .val (.int p2), .val (.int p3), .val (.int p4), .val (.int p5), .unset, .unset] [(.long w_w_o0_revisions_1), (.int (1 : Int32)), (.ref w_o0_revisions)]))
  refine own_lconst X350 hx (hb hby own_d6_7) (z := 1) rfl (q := 8) rfl ?_
  refine own_ladd X350 hx (hb hby own_d6_8) (q := 9) rfl ?_
  refine own_back (fun _ k => ?_) (b := T350.setTop (mkF m 10 #[.val (.ref o0), .val (.int (1 : Int32)), .val (.int p2), .val (.int p3), .val (.int p4), .val (.int p5), .unset, .unset] [(.long (w_w_o0_revisions_1 + (1 : Int64))), (.int (1 : Int32)), (.ref w_o0_revisions), (.long (w_w_o0_revisions_1 + (1 : Int64)))])) ?_
  · jvm_step X350.here [X350.here.top, hx, (hb hby own_d6_9), Value.category]
    exact k
  obtain ⟨cl352, Ar352, q352, S352, N352v, H352, G352⟩ := id V_w_o0_revisions
  have hin352 : ¬ ((1 : Int32) < 0 ∨ cl352.slots.size ≤ ((1 : Int32)).toNatClampNeg) := inb_of S352 ⟨by decide, by decide⟩
  obtain ⟨T352, h352, X352, e352, W352, st352⟩ := stJ X350 hx hZ e350 Ar352 (j := (1 : Int32)) hin352 (g := (mkF m 10 #[.val (.ref o0), .val (.int (1 : Int32)), .val (.int p2), .val (.int p3), .val (.int p4), .val (.int p5), .unset, .unset] [(.long (w_w_o0_revisions_1 + (1 : Int64))), (.int (1 : Int32)), (.ref w_o0_revisions), (.long (w_w_o0_revisions_1 + (1 : Int64)))])) rfl rfl (hb hby own_d6_10)
  have V_w_o0_revisions_352 : Arv Z h352 w_o0_revisions k_w_o0_revisions .long (2 : Int32) [(.long w_w_o0_revisions_0), (.long (w_w_o0_revisions_1 + (1 : Int64)))] (.long (0 : Int64)) := Arv.set Ar352 q352 S352 N352v H352 G352 rfl W352 1 rfl (Nat.le_of_ble_eq_true rfl)
  have E_o0_353 := E_o0.wr W352
  have F_o0_revisions_354 := F_o0_revisions.other W352 (Or.inl ne_o0_w_o0_revisions)
  have F_o0_lastWipeOut_355 := F_o0_lastWipeOut.other W352 (Or.inl ne_o0_w_o0_revisions)
  have F_o0_lastRemoval_356 := F_o0_lastRemoval.other W352 (Or.inl ne_o0_w_o0_revisions)
  have F_o0_lastStrongRemoval_357 := F_o0_lastStrongRemoval.other W352 (Or.inl ne_o0_w_o0_revisions)
  have F_o0_lastPosition_358 := F_o0_lastPosition.other W352 (Or.inl ne_o0_w_o0_revisions)
  have V_w_o0_lastWipeOut_359 := V_w_o0_lastWipeOut.other W352 (Ne.symm ne_w_o0_revisions_w_o0_lastWipeOut)
  have V_w_o0_lastRemoval_360 := V_w_o0_lastRemoval.other W352 (Ne.symm ne_w_o0_revisions_w_o0_lastRemoval)
  have V_w_o0_lastStrongRemoval_361 := V_w_o0_lastStrongRemoval.other W352 (Ne.symm ne_w_o0_revisions_w_o0_lastStrongRemoval)
  have V_w_o0_lastPosition_362 := V_w_o0_lastPosition.other W352 (Ne.symm ne_w_o0_revisions_w_o0_lastPosition)
  have Kp363 : Keep h0 _ [w_o0_revisions, w_o0_lastWipeOut, w_o0_lastRemoval, w_o0_lastStrongRemoval, w_o0_lastPosition] := (Keep.refl h0 [w_o0_revisions, w_o0_lastWipeOut, w_o0_lastRemoval, w_o0_lastStrongRemoval, w_o0_lastPosition]).wr W352 (Or.inl (List.mem_of_getElem? (i := 0) rfl))
  have Z364 := Nat.le_trans Z0 (Keep.of_wr W352).1
  obtain ⟨L352, X352, N352⟩ := own_gl X352 (Fr.snoc X352 N0 g_w_o0_revisions)
  refine own_back st352 ?_
  show own_End p e below s _ _ _ (T352.setTop (mkF m 11 #[.val (.ref o0), .val (.int (1 : Int32)), .val (.int p2), .val (.int p3), .val (.int p4), .val (.int p5), .unset, .unset] [(.long (w_w_o0_revisions_1 + (1 : Int64)))]))
  refine own_lstore X352 hx (hb hby own_d6_11) (l' := #[.val (.ref o0), .val (.int (1 : Int32)), .val (.int p2), .val (.int p3), .val (.int p4), .val (.int p5), .val (.long (w_w_o0_revisions_1 + (1 : Int64))), .second]) rfl (q := 13) rfl ?_
  refine own_aloadN X352 hx (hb hby own_d6_13) rfl rfl (q := 14) rfl ?_
  obtain ⟨T365, X365, e365, st365⟩ := getF X352 hx hZ hown (host := "") (Or.inl (hw _ (List.mem_of_getElem? (i := 23) rfl))) Via.refl e352 F_o0_lastPosition_358 (g := (mkF m 14 #[.val (.ref o0), .val (.int (1 : Int32)), .val (.int p2), .val (.int p3), .val (.int p4), .val (.int p5), .val (.long (w_w_o0_revisions_1 + (1 : Int64))), .second] [(.ref o0)])) rfl rfl (hb hby own_d6_14)
  refine own_back st365 ?_
  show own_End p e below s _ _ _ (T365.setTop (mkF m 17 #[.val (.ref o0), .val (.int (1 : Int32)), .val (.int p2), .val (.int p3), .val (.int p4), .val (.int p5), .val (.long (w_w_o0_revisions_1 + (1 : Int64))), .second] [(.ref w_o0_lastPosition)]))
  refine own_iloadN X365 hx (hb hby own_d6_17) rfl (q := 18) rfl ?_
  refine own_iloadN X365 hx (hb hby own_d6_18) rfl (q := 19) rfl ?_
  obtain ⟨cl366, Ar366, q366, S366, N366v, H366, G366⟩ := id V_w_o0_lastPosition_362
  have hin366 : ¬ ((1 : Int32) < 0 ∨ cl366.slots.size ≤ ((1 : Int32)).toNatClampNeg) := inb_of S366 ⟨by decide, by decide⟩
  obtain ⟨T366, h366, X366, e366, W366, st366⟩ := stI X365 hx hZ e365 Ar366 (j := (1 : Int32)) hin366 (g := (mkF m 19 #[.val (.ref o0), .val (.int (1 : Int32)), .val (.int p2), .val (.int p3), .val (.int p4), .val (.int p5), .val (.long (w_w_o0_revisions_1 + (1 : Int64))), .second] [(.int p2), (.int (1 : Int32)), (.ref w_o0_lastPosition)])) rfl rfl (hb hby own_d6_19)
  have V_w_o0_lastPosition_366 : Arv Z h366 w_o0_lastPosition k_w_o0_lastPosition .int (2 : Int32) [(.int w_w_o0_lastPosition_0), (.int p2)] (.int (0 : Int32)) := Arv.set Ar366 q366 S366 N366v H366 G366 rfl W366 1 rfl (Nat.le_of_ble_eq_true rfl)
  have E_o0_367 := E_o0_353.wr W366
  have F_o0_revisions_368 := F_o0_revisions_354.other W366 (Or.inl ne_o0_w_o0_lastPosition)
  have F_o0_lastWipeOut_369 := F_o0_lastWipeOut_355.other W366 (Or.inl ne_o0_w_o0_lastPosition)
  have F_o0_lastRemoval_370 := F_o0_lastRemoval_356.other W366 (Or.inl ne_o0_w_o0_lastPosition)
  have F_o0_lastStrongRemoval_371 := F_o0_lastStrongRemoval_357.other W366 (Or.inl ne_o0_w_o0_lastPosition)
  have F_o0_lastPosition_372 := F_o0_lastPosition_358.other W366 (Or.inl ne_o0_w_o0_lastPosition)
  have V_w_o0_revisions_373 := V_w_o0_revisions_352.other W366 ne_w_o0_revisions_w_o0_lastPosition
  have V_w_o0_lastWipeOut_374 := V_w_o0_lastWipeOut_359.other W366 ne_w_o0_lastWipeOut_w_o0_lastPosition
  have V_w_o0_lastRemoval_375 := V_w_o0_lastRemoval_360.other W366 ne_w_o0_lastRemoval_w_o0_lastPosition
  have V_w_o0_lastStrongRemoval_376 := V_w_o0_lastStrongRemoval_361.other W366 ne_w_o0_lastStrongRemoval_w_o0_lastPosition
  have Kp377 : Keep h0 _ [w_o0_revisions, w_o0_lastWipeOut, w_o0_lastRemoval, w_o0_lastStrongRemoval, w_o0_lastPosition] := Kp363.wr W366 (Or.inl (List.mem_of_getElem? (i := 4) rfl))
  have Z378 := Nat.le_trans Z364 (Keep.of_wr W366).1
  obtain ⟨L366, X366, N366⟩ := own_gl X366 (Fr.snoc X366 N352 g_w_o0_lastPosition)
  refine own_back st366 ?_
  show own_End p e below s _ _ _ (T366.setTop (mkF m 20 #[.val (.ref o0), .val (.int (1 : Int32)), .val (.int p2), .val (.int p3), .val (.int p4), .val (.int p5), .val (.long (w_w_o0_revisions_1 + (1 : Int64))), .second] []))
  refine own_iloadN X366 hx (hb hby own_d6_20) rfl (q := 21) rfl ?_
  by_cases hc21_379 : p3 = (0 : Int32)
  · refine own_ifY X366 hx (hb hby own_d6_21) (teq hc21_379).1 (q := 32) (by decide) (by decide) ?_
    refine own_iload X366 hx (hb hby own_d6_32) rfl (q := 34) rfl ?_
    by_cases hc34_380 : p4 = (0 : Int32)
    · refine own_ifY X366 hx (hb hby own_d6_34) (teq hc34_380).1 (q := 45) (by decide) (by decide) ?_
      refine own_iload X366 hx (hb hby own_d6_45) rfl (q := 47) rfl ?_
      refine own_ifN X366 hx (hb hby own_d6_47) (teq hc34_380).2 (q := 50) rfl ?_
      refine own_iload X366 hx (hb hby own_d6_50) rfl (q := 52) rfl ?_
      by_cases hc52_381 : p5 = (0 : Int32)
      · refine own_ifY X366 hx (hb hby own_d6_52) (teq hc52_381).1 (q := 63) (by decide) (by decide) ?_
        refine own_retV X366 hx Bd.returns Bd.notSynchronized (by decide) (by decide) (hb hby own_d6_63) ?_
        show own_Q6_1 Z o0 p2 p3 p4 p5 w_o0_revisions w_o0_lastWipeOut w_o0_lastRemoval w_o0_lastStrongRemoval w_o0_lastPosition k_w_o0_revisions w_w_o0_revisions_0 w_w_o0_revisions_1 k_w_o0_lastWipeOut w_w_o0_lastWipeOut_0 w_w_o0_lastWipeOut_1 k_w_o0_lastRemoval w_w_o0_lastRemoval_0 w_w_o0_lastRemoval_1 k_w_o0_lastStrongRemoval w_w_o0_lastStrongRemoval_0 w_w_o0_lastStrongRemoval_1 k_w_o0_lastPosition w_w_o0_lastPosition_0 w_w_o0_lastPosition_1 h0 n0 _ T366.heap _
        rw [e366]
        exact ⟨rfl, N366, Kp377, V_w_o0_revisions_373, (by have q := V_w_o0_lastWipeOut_374; simp only [own_G6_1_w_o0_lastWipeOut_1, if_pos hc21_379, if_pos hc34_380, if_pos hc52_381]; exact q), (by have q := V_w_o0_lastRemoval_375; simp only [own_G6_1_w_o0_lastRemoval_1, if_pos hc21_379, if_pos hc34_380, if_pos hc52_381]; exact q), (by have q := V_w_o0_lastStrongRemoval_376; simp only [own_G6_1_w_o0_lastStrongRemoval_1, if_pos hc21_379, if_pos hc34_380, if_pos hc52_381]; exact q), V_w_o0_lastPosition_366⟩
      · refine own_ifN X366 hx (hb hby own_d6_52) (feq hc52_381).1 (q := 55) rfl ?_
        refine own_aloadN X366 hx (hb hby own_d6_55) rfl rfl (q := 56) rfl ?_
        obtain ⟨T383, X383, e383, st383⟩ := getF X366 hx hZ hown (host := "") (Or.inl (hw _ (List.mem_of_getElem? (i := 20) rfl))) Via.refl e366 F_o0_lastStrongRemoval_371 (g := (mkF m 56 #[.val (.ref o0), .val (.int (1 : Int32)), .val (.int p2), .val (.int p3), .val (.int p4), .val (.int p5), .val (.long (w_w_o0_revisions_1 + (1 : Int64))), .second] [(.ref o0)])) rfl rfl (hb hby own_d6_56)
        refine own_back st383 ?_
        show own_End p e below s _ _ _ (T383.setTop (mkF m 59 #[.val (.ref o0), .val (.int (1 : Int32)), .val (.int p2), .val (.int p3), .val (.int p4), .val (.int p5), .val (.long (w_w_o0_revisions_1 + (1 : Int64))), .second] [(.ref w_o0_lastStrongRemoval)]))
        refine own_iloadN X383 hx (hb hby own_d6_59) rfl (q := 60) rfl ?_
        refine own_lload X383 hx (hb hby own_d6_60) rfl (q := 62) rfl ?_
        obtain ⟨cl384, Ar384, q384, S384, N384v, H384, G384⟩ := id V_w_o0_lastStrongRemoval_376
        have hin384 : ¬ ((1 : Int32) < 0 ∨ cl384.slots.size ≤ ((1 : Int32)).toNatClampNeg) := inb_of S384 ⟨by decide, by decide⟩
        obtain ⟨T384, h384, X384, e384, W384, st384⟩ := stJ X383 hx hZ e383 Ar384 (j := (1 : Int32)) hin384 (g := (mkF m 62 #[.val (.ref o0), .val (.int (1 : Int32)), .val (.int p2), .val (.int p3), .val (.int p4), .val (.int p5), .val (.long (w_w_o0_revisions_1 + (1 : Int64))), .second] [(.long (w_w_o0_revisions_1 + (1 : Int64))), (.int (1 : Int32)), (.ref w_o0_lastStrongRemoval)])) rfl rfl (hb hby own_d6_62)
        have V_w_o0_lastStrongRemoval_384 : Arv Z h384 w_o0_lastStrongRemoval k_w_o0_lastStrongRemoval .long (2 : Int32) [(.long w_w_o0_lastStrongRemoval_0), (.long (w_w_o0_revisions_1 + (1 : Int64)))] (.long (0 : Int64)) := Arv.set Ar384 q384 S384 N384v H384 G384 rfl W384 1 rfl (Nat.le_of_ble_eq_true rfl)
        have E_o0_385 := E_o0_367.wr W384
        have F_o0_revisions_386 := F_o0_revisions_368.other W384 (Or.inl ne_o0_w_o0_lastStrongRemoval)
        have F_o0_lastWipeOut_387 := F_o0_lastWipeOut_369.other W384 (Or.inl ne_o0_w_o0_lastStrongRemoval)
        have F_o0_lastRemoval_388 := F_o0_lastRemoval_370.other W384 (Or.inl ne_o0_w_o0_lastStrongRemoval)
        have F_o0_lastStrongRemoval_389 := F_o0_lastStrongRemoval_371.other W384 (Or.inl ne_o0_w_o0_lastStrongRemoval)
        have F_o0_lastPosition_390 := F_o0_lastPosition_372.other W384 (Or.inl ne_o0_w_o0_lastStrongRemoval)
        have V_w_o0_revisions_391 := V_w_o0_revisions_373.other W384 ne_w_o0_revisions_w_o0_lastStrongRemoval
        have V_w_o0_lastWipeOut_392 := V_w_o0_lastWipeOut_374.other W384 ne_w_o0_lastWipeOut_w_o0_lastStrongRemoval
        have V_w_o0_lastRemoval_393 := V_w_o0_lastRemoval_375.other W384 ne_w_o0_lastRemoval_w_o0_lastStrongRemoval
        have V_w_o0_lastPosition_394 := V_w_o0_lastPosition_366.other W384 (Ne.symm ne_w_o0_lastStrongRemoval_w_o0_lastPosition)
        have Kp395 : Keep h0 _ [w_o0_revisions, w_o0_lastWipeOut, w_o0_lastRemoval, w_o0_lastStrongRemoval, w_o0_lastPosition] := Kp377.wr W384 (Or.inl (List.mem_of_getElem? (i := 3) rfl))
        have Z396 := Nat.le_trans Z378 (Keep.of_wr W384).1
        obtain ⟨L384, X384, N384⟩ := own_gl X384 (Fr.snoc X384 N366 g_w_o0_lastStrongRemoval)
        refine own_back st384 ?_
        show own_End p e below s _ _ _ (T384.setTop (mkF m 63 #[.val (.ref o0), .val (.int (1 : Int32)), .val (.int p2), .val (.int p3), .val (.int p4), .val (.int p5), .val (.long (w_w_o0_revisions_1 + (1 : Int64))), .second] []))
        refine own_retV X384 hx Bd.returns Bd.notSynchronized (by decide) (by decide) (hb hby own_d6_63) ?_
        show own_Q6_1 Z o0 p2 p3 p4 p5 w_o0_revisions w_o0_lastWipeOut w_o0_lastRemoval w_o0_lastStrongRemoval w_o0_lastPosition k_w_o0_revisions w_w_o0_revisions_0 w_w_o0_revisions_1 k_w_o0_lastWipeOut w_w_o0_lastWipeOut_0 w_w_o0_lastWipeOut_1 k_w_o0_lastRemoval w_w_o0_lastRemoval_0 w_w_o0_lastRemoval_1 k_w_o0_lastStrongRemoval w_w_o0_lastStrongRemoval_0 w_w_o0_lastStrongRemoval_1 k_w_o0_lastPosition w_w_o0_lastPosition_0 w_w_o0_lastPosition_1 h0 n0 _ T384.heap _
        rw [e384]
        exact ⟨rfl, N384, Kp395, V_w_o0_revisions_391, (by have q := V_w_o0_lastWipeOut_392; simp only [own_G6_1_w_o0_lastWipeOut_1, if_pos hc21_379, if_pos hc34_380, if_neg hc52_381]; exact q), (by have q := V_w_o0_lastRemoval_393; simp only [own_G6_1_w_o0_lastRemoval_1, if_pos hc21_379, if_pos hc34_380, if_neg hc52_381]; exact q), (by have q := V_w_o0_lastStrongRemoval_384; simp only [own_G6_1_w_o0_lastStrongRemoval_1, if_pos hc21_379, if_pos hc34_380, if_neg hc52_381]; exact q), V_w_o0_lastPosition_394⟩
    · refine own_ifN X366 hx (hb hby own_d6_34) (feq hc34_380).1 (q := 37) rfl ?_
      refine own_aloadN X366 hx (hb hby own_d6_37) rfl rfl (q := 38) rfl ?_
      obtain ⟨T398, X398, e398, st398⟩ := getF X366 hx hZ hown (host := "") (Or.inl (hw _ (List.mem_of_getElem? (i := 16) rfl))) Via.refl e366 F_o0_lastWipeOut_369 (g := (mkF m 38 #[.val (.ref o0), .val (.int (1 : Int32)), .val (.int p2), .val (.int p3), .val (.int p4), .val (.int p5), .val (.long (w_w_o0_revisions_1 + (1 : Int64))), .second] [(.ref o0)])) rfl rfl (hb hby own_d6_38)
      refine own_back st398 ?_
      show own_End p e below s _ _ _ (T398.setTop (mkF m 41 #[.val (.ref o0), .val (.int (1 : Int32)), .val (.int p2), .val (.int p3), .val (.int p4), .val (.int p5), .val (.long (w_w_o0_revisions_1 + (1 : Int64))), .second] [(.ref w_o0_lastWipeOut)]))
      refine own_iloadN X398 hx (hb hby own_d6_41) rfl (q := 42) rfl ?_
      refine own_lload X398 hx (hb hby own_d6_42) rfl (q := 44) rfl ?_
      obtain ⟨cl399, Ar399, q399, S399, N399v, H399, G399⟩ := id V_w_o0_lastWipeOut_374
      have hin399 : ¬ ((1 : Int32) < 0 ∨ cl399.slots.size ≤ ((1 : Int32)).toNatClampNeg) := inb_of S399 ⟨by decide, by decide⟩
      obtain ⟨T399, h399, X399, e399, W399, st399⟩ := stJ X398 hx hZ e398 Ar399 (j := (1 : Int32)) hin399 (g := (mkF m 44 #[.val (.ref o0), .val (.int (1 : Int32)), .val (.int p2), .val (.int p3), .val (.int p4), .val (.int p5), .val (.long (w_w_o0_revisions_1 + (1 : Int64))), .second] [(.long (w_w_o0_revisions_1 + (1 : Int64))), (.int (1 : Int32)), (.ref w_o0_lastWipeOut)])) rfl rfl (hb hby own_d6_44)
      have V_w_o0_lastWipeOut_399 : Arv Z h399 w_o0_lastWipeOut k_w_o0_lastWipeOut .long (2 : Int32) [(.long w_w_o0_lastWipeOut_0), (.long (w_w_o0_revisions_1 + (1 : Int64)))] (.long (0 : Int64)) := Arv.set Ar399 q399 S399 N399v H399 G399 rfl W399 1 rfl (Nat.le_of_ble_eq_true rfl)
      have E_o0_400 := E_o0_367.wr W399
      have F_o0_revisions_401 := F_o0_revisions_368.other W399 (Or.inl ne_o0_w_o0_lastWipeOut)
      have F_o0_lastWipeOut_402 := F_o0_lastWipeOut_369.other W399 (Or.inl ne_o0_w_o0_lastWipeOut)
      have F_o0_lastRemoval_403 := F_o0_lastRemoval_370.other W399 (Or.inl ne_o0_w_o0_lastWipeOut)
      have F_o0_lastStrongRemoval_404 := F_o0_lastStrongRemoval_371.other W399 (Or.inl ne_o0_w_o0_lastWipeOut)
      have F_o0_lastPosition_405 := F_o0_lastPosition_372.other W399 (Or.inl ne_o0_w_o0_lastWipeOut)
      have V_w_o0_revisions_406 := V_w_o0_revisions_373.other W399 ne_w_o0_revisions_w_o0_lastWipeOut
      have V_w_o0_lastRemoval_407 := V_w_o0_lastRemoval_375.other W399 (Ne.symm ne_w_o0_lastWipeOut_w_o0_lastRemoval)
      have V_w_o0_lastStrongRemoval_408 := V_w_o0_lastStrongRemoval_376.other W399 (Ne.symm ne_w_o0_lastWipeOut_w_o0_lastStrongRemoval)
      have V_w_o0_lastPosition_409 := V_w_o0_lastPosition_366.other W399 (Ne.symm ne_w_o0_lastWipeOut_w_o0_lastPosition)
      have Kp410 : Keep h0 _ [w_o0_revisions, w_o0_lastWipeOut, w_o0_lastRemoval, w_o0_lastStrongRemoval, w_o0_lastPosition] := Kp377.wr W399 (Or.inl (List.mem_of_getElem? (i := 1) rfl))
      have Z411 := Nat.le_trans Z378 (Keep.of_wr W399).1
      obtain ⟨L399, X399, N399⟩ := own_gl X399 (Fr.snoc X399 N366 g_w_o0_lastWipeOut)
      refine own_back st399 ?_
      show own_End p e below s _ _ _ (T399.setTop (mkF m 45 #[.val (.ref o0), .val (.int (1 : Int32)), .val (.int p2), .val (.int p3), .val (.int p4), .val (.int p5), .val (.long (w_w_o0_revisions_1 + (1 : Int64))), .second] []))
      refine own_iload X399 hx (hb hby own_d6_45) rfl (q := 47) rfl ?_
      refine own_ifY X399 hx (hb hby own_d6_47) (feq hc34_380).2 (q := 55) (by decide) (by decide) ?_
      refine own_aloadN X399 hx (hb hby own_d6_55) rfl rfl (q := 56) rfl ?_
      obtain ⟨T412, X412, e412, st412⟩ := getF X399 hx hZ hown (host := "") (Or.inl (hw _ (List.mem_of_getElem? (i := 20) rfl))) Via.refl e399 F_o0_lastStrongRemoval_404 (g := (mkF m 56 #[.val (.ref o0), .val (.int (1 : Int32)), .val (.int p2), .val (.int p3), .val (.int p4), .val (.int p5), .val (.long (w_w_o0_revisions_1 + (1 : Int64))), .second] [(.ref o0)])) rfl rfl (hb hby own_d6_56)
      refine own_back st412 ?_
      show own_End p e below s _ _ _ (T412.setTop (mkF m 59 #[.val (.ref o0), .val (.int (1 : Int32)), .val (.int p2), .val (.int p3), .val (.int p4), .val (.int p5), .val (.long (w_w_o0_revisions_1 + (1 : Int64))), .second] [(.ref w_o0_lastStrongRemoval)]))
      refine own_iloadN X412 hx (hb hby own_d6_59) rfl (q := 60) rfl ?_
      refine own_lload X412 hx (hb hby own_d6_60) rfl (q := 62) rfl ?_
      obtain ⟨cl413, Ar413, q413, S413, N413v, H413, G413⟩ := id V_w_o0_lastStrongRemoval_408
      have hin413 : ¬ ((1 : Int32) < 0 ∨ cl413.slots.size ≤ ((1 : Int32)).toNatClampNeg) := inb_of S413 ⟨by decide, by decide⟩
      obtain ⟨T413, h413, X413, e413, W413, st413⟩ := stJ X412 hx hZ e412 Ar413 (j := (1 : Int32)) hin413 (g := (mkF m 62 #[.val (.ref o0), .val (.int (1 : Int32)), .val (.int p2), .val (.int p3), .val (.int p4), .val (.int p5), .val (.long (w_w_o0_revisions_1 + (1 : Int64))), .second] [(.long (w_w_o0_revisions_1 + (1 : Int64))), (.int (1 : Int32)), (.ref w_o0_lastStrongRemoval)])) rfl rfl (hb hby own_d6_62)
      have V_w_o0_lastStrongRemoval_413 : Arv Z h413 w_o0_lastStrongRemoval k_w_o0_lastStrongRemoval .long (2 : Int32) [(.long w_w_o0_lastStrongRemoval_0), (.long (w_w_o0_revisions_1 + (1 : Int64)))] (.long (0 : Int64)) := Arv.set Ar413 q413 S413 N413v H413 G413 rfl W413 1 rfl (Nat.le_of_ble_eq_true rfl)
      have E_o0_414 := E_o0_400.wr W413
      have F_o0_revisions_415 := F_o0_revisions_401.other W413 (Or.inl ne_o0_w_o0_lastStrongRemoval)
      have F_o0_lastWipeOut_416 := F_o0_lastWipeOut_402.other W413 (Or.inl ne_o0_w_o0_lastStrongRemoval)
      have F_o0_lastRemoval_417 := F_o0_lastRemoval_403.other W413 (Or.inl ne_o0_w_o0_lastStrongRemoval)
      have F_o0_lastStrongRemoval_418 := F_o0_lastStrongRemoval_404.other W413 (Or.inl ne_o0_w_o0_lastStrongRemoval)
      have F_o0_lastPosition_419 := F_o0_lastPosition_405.other W413 (Or.inl ne_o0_w_o0_lastStrongRemoval)
      have V_w_o0_revisions_420 := V_w_o0_revisions_406.other W413 ne_w_o0_revisions_w_o0_lastStrongRemoval
      have V_w_o0_lastWipeOut_421 := V_w_o0_lastWipeOut_399.other W413 ne_w_o0_lastWipeOut_w_o0_lastStrongRemoval
      have V_w_o0_lastRemoval_422 := V_w_o0_lastRemoval_407.other W413 ne_w_o0_lastRemoval_w_o0_lastStrongRemoval
      have V_w_o0_lastPosition_423 := V_w_o0_lastPosition_409.other W413 (Ne.symm ne_w_o0_lastStrongRemoval_w_o0_lastPosition)
      have Kp424 : Keep h0 _ [w_o0_revisions, w_o0_lastWipeOut, w_o0_lastRemoval, w_o0_lastStrongRemoval, w_o0_lastPosition] := Kp410.wr W413 (Or.inl (List.mem_of_getElem? (i := 3) rfl))
      have Z425 := Nat.le_trans Z411 (Keep.of_wr W413).1
      obtain ⟨L413, X413, N413⟩ := own_gl X413 (Fr.snoc X413 N399 g_w_o0_lastStrongRemoval)
      refine own_back st413 ?_
      show own_End p e below s _ _ _ (T413.setTop (mkF m 63 #[.val (.ref o0), .val (.int (1 : Int32)), .val (.int p2), .val (.int p3), .val (.int p4), .val (.int p5), .val (.long (w_w_o0_revisions_1 + (1 : Int64))), .second] []))
      refine own_retV X413 hx Bd.returns Bd.notSynchronized (by decide) (by decide) (hb hby own_d6_63) ?_
      show own_Q6_1 Z o0 p2 p3 p4 p5 w_o0_revisions w_o0_lastWipeOut w_o0_lastRemoval w_o0_lastStrongRemoval w_o0_lastPosition k_w_o0_revisions w_w_o0_revisions_0 w_w_o0_revisions_1 k_w_o0_lastWipeOut w_w_o0_lastWipeOut_0 w_w_o0_lastWipeOut_1 k_w_o0_lastRemoval w_w_o0_lastRemoval_0 w_w_o0_lastRemoval_1 k_w_o0_lastStrongRemoval w_w_o0_lastStrongRemoval_0 w_w_o0_lastStrongRemoval_1 k_w_o0_lastPosition w_w_o0_lastPosition_0 w_w_o0_lastPosition_1 h0 n0 _ T413.heap _
      rw [e413]
      exact ⟨rfl, N413, Kp424, V_w_o0_revisions_420, (by have q := V_w_o0_lastWipeOut_421; simp only [own_G6_1_w_o0_lastWipeOut_1, if_pos hc21_379, if_neg hc34_380]; exact q), (by have q := V_w_o0_lastRemoval_422; simp only [own_G6_1_w_o0_lastRemoval_1, if_pos hc21_379, if_neg hc34_380]; exact q), (by have q := V_w_o0_lastStrongRemoval_413; simp only [own_G6_1_w_o0_lastStrongRemoval_1, if_pos hc21_379, if_neg hc34_380]; exact q), V_w_o0_lastPosition_423⟩
  · refine own_ifN X366 hx (hb hby own_d6_21) (feq hc21_379).1 (q := 24) rfl ?_
    refine own_aloadN X366 hx (hb hby own_d6_24) rfl rfl (q := 25) rfl ?_
    obtain ⟨T427, X427, e427, st427⟩ := getF X366 hx hZ hown (host := "") (Or.inl (hw _ (List.mem_of_getElem? (i := 18) rfl))) Via.refl e366 F_o0_lastRemoval_370 (g := (mkF m 25 #[.val (.ref o0), .val (.int (1 : Int32)), .val (.int p2), .val (.int p3), .val (.int p4), .val (.int p5), .val (.long (w_w_o0_revisions_1 + (1 : Int64))), .second] [(.ref o0)])) rfl rfl (hb hby own_d6_25)
    refine own_back st427 ?_
    show own_End p e below s _ _ _ (T427.setTop (mkF m 28 #[.val (.ref o0), .val (.int (1 : Int32)), .val (.int p2), .val (.int p3), .val (.int p4), .val (.int p5), .val (.long (w_w_o0_revisions_1 + (1 : Int64))), .second] [(.ref w_o0_lastRemoval)]))
    refine own_iloadN X427 hx (hb hby own_d6_28) rfl (q := 29) rfl ?_
    refine own_lload X427 hx (hb hby own_d6_29) rfl (q := 31) rfl ?_
    obtain ⟨cl428, Ar428, q428, S428, N428v, H428, G428⟩ := id V_w_o0_lastRemoval_375
    have hin428 : ¬ ((1 : Int32) < 0 ∨ cl428.slots.size ≤ ((1 : Int32)).toNatClampNeg) := inb_of S428 ⟨by decide, by decide⟩
    obtain ⟨T428, h428, X428, e428, W428, st428⟩ := stJ X427 hx hZ e427 Ar428 (j := (1 : Int32)) hin428 (g := (mkF m 31 #[.val (.ref o0), .val (.int (1 : Int32)), .val (.int p2), .val (.int p3), .val (.int p4), .val (.int p5), .val (.long (w_w_o0_revisions_1 + (1 : Int64))), .second] [(.long (w_w_o0_revisions_1 + (1 : Int64))), (.int (1 : Int32)), (.ref w_o0_lastRemoval)])) rfl rfl (hb hby own_d6_31)
    have V_w_o0_lastRemoval_428 : Arv Z h428 w_o0_lastRemoval k_w_o0_lastRemoval .long (2 : Int32) [(.long w_w_o0_lastRemoval_0), (.long (w_w_o0_revisions_1 + (1 : Int64)))] (.long (0 : Int64)) := Arv.set Ar428 q428 S428 N428v H428 G428 rfl W428 1 rfl (Nat.le_of_ble_eq_true rfl)
    have E_o0_429 := E_o0_367.wr W428
    have F_o0_revisions_430 := F_o0_revisions_368.other W428 (Or.inl ne_o0_w_o0_lastRemoval)
    have F_o0_lastWipeOut_431 := F_o0_lastWipeOut_369.other W428 (Or.inl ne_o0_w_o0_lastRemoval)
    have F_o0_lastRemoval_432 := F_o0_lastRemoval_370.other W428 (Or.inl ne_o0_w_o0_lastRemoval)
    have F_o0_lastStrongRemoval_433 := F_o0_lastStrongRemoval_371.other W428 (Or.inl ne_o0_w_o0_lastRemoval)
    have F_o0_lastPosition_434 := F_o0_lastPosition_372.other W428 (Or.inl ne_o0_w_o0_lastRemoval)
    have V_w_o0_revisions_435 := V_w_o0_revisions_373.other W428 ne_w_o0_revisions_w_o0_lastRemoval
    have V_w_o0_lastWipeOut_436 := V_w_o0_lastWipeOut_374.other W428 ne_w_o0_lastWipeOut_w_o0_lastRemoval
    have V_w_o0_lastStrongRemoval_437 := V_w_o0_lastStrongRemoval_376.other W428 (Ne.symm ne_w_o0_lastRemoval_w_o0_lastStrongRemoval)
    have V_w_o0_lastPosition_438 := V_w_o0_lastPosition_366.other W428 (Ne.symm ne_w_o0_lastRemoval_w_o0_lastPosition)
    have Kp439 : Keep h0 _ [w_o0_revisions, w_o0_lastWipeOut, w_o0_lastRemoval, w_o0_lastStrongRemoval, w_o0_lastPosition] := Kp377.wr W428 (Or.inl (List.mem_of_getElem? (i := 2) rfl))
    have Z440 := Nat.le_trans Z378 (Keep.of_wr W428).1
    obtain ⟨L428, X428, N428⟩ := own_gl X428 (Fr.snoc X428 N366 g_w_o0_lastRemoval)
    refine own_back st428 ?_
    show own_End p e below s _ _ _ (T428.setTop (mkF m 32 #[.val (.ref o0), .val (.int (1 : Int32)), .val (.int p2), .val (.int p3), .val (.int p4), .val (.int p5), .val (.long (w_w_o0_revisions_1 + (1 : Int64))), .second] []))
    refine own_iload X428 hx (hb hby own_d6_32) rfl (q := 34) rfl ?_
    by_cases hc34_441 : p4 = (0 : Int32)
    · refine own_ifY X428 hx (hb hby own_d6_34) (teq hc34_441).1 (q := 45) (by decide) (by decide) ?_
      refine own_iload X428 hx (hb hby own_d6_45) rfl (q := 47) rfl ?_
      refine own_ifN X428 hx (hb hby own_d6_47) (teq hc34_441).2 (q := 50) rfl ?_
      refine own_iload X428 hx (hb hby own_d6_50) rfl (q := 52) rfl ?_
      by_cases hc52_442 : p5 = (0 : Int32)
      · refine own_ifY X428 hx (hb hby own_d6_52) (teq hc52_442).1 (q := 63) (by decide) (by decide) ?_
        refine own_retV X428 hx Bd.returns Bd.notSynchronized (by decide) (by decide) (hb hby own_d6_63) ?_
        show own_Q6_1 Z o0 p2 p3 p4 p5 w_o0_revisions w_o0_lastWipeOut w_o0_lastRemoval w_o0_lastStrongRemoval w_o0_lastPosition k_w_o0_revisions w_w_o0_revisions_0 w_w_o0_revisions_1 k_w_o0_lastWipeOut w_w_o0_lastWipeOut_0 w_w_o0_lastWipeOut_1 k_w_o0_lastRemoval w_w_o0_lastRemoval_0 w_w_o0_lastRemoval_1 k_w_o0_lastStrongRemoval w_w_o0_lastStrongRemoval_0 w_w_o0_lastStrongRemoval_1 k_w_o0_lastPosition w_w_o0_lastPosition_0 w_w_o0_lastPosition_1 h0 n0 _ T428.heap _
        rw [e428]
        exact ⟨rfl, N428, Kp439, V_w_o0_revisions_435, (by have q := V_w_o0_lastWipeOut_436; simp only [own_G6_1_w_o0_lastWipeOut_1, if_neg hc21_379, if_pos hc34_441, if_pos hc52_442]; exact q), (by have q := V_w_o0_lastRemoval_428; simp only [own_G6_1_w_o0_lastRemoval_1, if_neg hc21_379, if_pos hc34_441, if_pos hc52_442]; exact q), (by have q := V_w_o0_lastStrongRemoval_437; simp only [own_G6_1_w_o0_lastStrongRemoval_1, if_neg hc21_379, if_pos hc34_441, if_pos hc52_442]; exact q), V_w_o0_lastPosition_438⟩
      · refine own_ifN X428 hx (hb hby own_d6_52) (feq hc52_442).1 (q := 55) rfl ?_
        refine own_aloadN X428 hx (hb hby own_d6_55) rfl rfl (q := 56) rfl ?_
        obtain ⟨T444, X444, e444, st444⟩ := getF X428 hx hZ hown (host := "") (Or.inl (hw _ (List.mem_of_getElem? (i := 20) rfl))) Via.refl e428 F_o0_lastStrongRemoval_433 (g := (mkF m 56 #[.val (.ref o0), .val (.int (1 : Int32)), .val (.int p2), .val (.int p3), .val (.int p4), .val (.int p5), .val (.long (w_w_o0_revisions_1 + (1 : Int64))), .second] [(.ref o0)])) rfl rfl (hb hby own_d6_56)
        refine own_back st444 ?_
        show own_End p e below s _ _ _ (T444.setTop (mkF m 59 #[.val (.ref o0), .val (.int (1 : Int32)), .val (.int p2), .val (.int p3), .val (.int p4), .val (.int p5), .val (.long (w_w_o0_revisions_1 + (1 : Int64))), .second] [(.ref w_o0_lastStrongRemoval)]))
        refine own_iloadN X444 hx (hb hby own_d6_59) rfl (q := 60) rfl ?_
        refine own_lload X444 hx (hb hby own_d6_60) rfl (q := 62) rfl ?_
        obtain ⟨cl445, Ar445, q445, S445, N445v, H445, G445⟩ := id V_w_o0_lastStrongRemoval_437
        have hin445 : ¬ ((1 : Int32) < 0 ∨ cl445.slots.size ≤ ((1 : Int32)).toNatClampNeg) := inb_of S445 ⟨by decide, by decide⟩
        obtain ⟨T445, h445, X445, e445, W445, st445⟩ := stJ X444 hx hZ e444 Ar445 (j := (1 : Int32)) hin445 (g := (mkF m 62 #[.val (.ref o0), .val (.int (1 : Int32)), .val (.int p2), .val (.int p3), .val (.int p4), .val (.int p5), .val (.long (w_w_o0_revisions_1 + (1 : Int64))), .second] [(.long (w_w_o0_revisions_1 + (1 : Int64))), (.int (1 : Int32)), (.ref w_o0_lastStrongRemoval)])) rfl rfl (hb hby own_d6_62)
        have V_w_o0_lastStrongRemoval_445 : Arv Z h445 w_o0_lastStrongRemoval k_w_o0_lastStrongRemoval .long (2 : Int32) [(.long w_w_o0_lastStrongRemoval_0), (.long (w_w_o0_revisions_1 + (1 : Int64)))] (.long (0 : Int64)) := Arv.set Ar445 q445 S445 N445v H445 G445 rfl W445 1 rfl (Nat.le_of_ble_eq_true rfl)
        have E_o0_446 := E_o0_429.wr W445
        have F_o0_revisions_447 := F_o0_revisions_430.other W445 (Or.inl ne_o0_w_o0_lastStrongRemoval)
        have F_o0_lastWipeOut_448 := F_o0_lastWipeOut_431.other W445 (Or.inl ne_o0_w_o0_lastStrongRemoval)
        have F_o0_lastRemoval_449 := F_o0_lastRemoval_432.other W445 (Or.inl ne_o0_w_o0_lastStrongRemoval)
        have F_o0_lastStrongRemoval_450 := F_o0_lastStrongRemoval_433.other W445 (Or.inl ne_o0_w_o0_lastStrongRemoval)
        have F_o0_lastPosition_451 := F_o0_lastPosition_434.other W445 (Or.inl ne_o0_w_o0_lastStrongRemoval)
        have V_w_o0_revisions_452 := V_w_o0_revisions_435.other W445 ne_w_o0_revisions_w_o0_lastStrongRemoval
        have V_w_o0_lastWipeOut_453 := V_w_o0_lastWipeOut_436.other W445 ne_w_o0_lastWipeOut_w_o0_lastStrongRemoval
        have V_w_o0_lastRemoval_454 := V_w_o0_lastRemoval_428.other W445 ne_w_o0_lastRemoval_w_o0_lastStrongRemoval
        have V_w_o0_lastPosition_455 := V_w_o0_lastPosition_438.other W445 (Ne.symm ne_w_o0_lastStrongRemoval_w_o0_lastPosition)
        have Kp456 : Keep h0 _ [w_o0_revisions, w_o0_lastWipeOut, w_o0_lastRemoval, w_o0_lastStrongRemoval, w_o0_lastPosition] := Kp439.wr W445 (Or.inl (List.mem_of_getElem? (i := 3) rfl))
        have Z457 := Nat.le_trans Z440 (Keep.of_wr W445).1
        obtain ⟨L445, X445, N445⟩ := own_gl X445 (Fr.snoc X445 N428 g_w_o0_lastStrongRemoval)
        refine own_back st445 ?_
        show own_End p e below s _ _ _ (T445.setTop (mkF m 63 #[.val (.ref o0), .val (.int (1 : Int32)), .val (.int p2), .val (.int p3), .val (.int p4), .val (.int p5), .val (.long (w_w_o0_revisions_1 + (1 : Int64))), .second] []))
        refine own_retV X445 hx Bd.returns Bd.notSynchronized (by decide) (by decide) (hb hby own_d6_63) ?_
        show own_Q6_1 Z o0 p2 p3 p4 p5 w_o0_revisions w_o0_lastWipeOut w_o0_lastRemoval w_o0_lastStrongRemoval w_o0_lastPosition k_w_o0_revisions w_w_o0_revisions_0 w_w_o0_revisions_1 k_w_o0_lastWipeOut w_w_o0_lastWipeOut_0 w_w_o0_lastWipeOut_1 k_w_o0_lastRemoval w_w_o0_lastRemoval_0 w_w_o0_lastRemoval_1 k_w_o0_lastStrongRemoval w_w_o0_lastStrongRemoval_0 w_w_o0_lastStrongRemoval_1 k_w_o0_lastPosition w_w_o0_lastPosition_0 w_w_o0_lastPosition_1 h0 n0 _ T445.heap _
        rw [e445]
        exact ⟨rfl, N445, Kp456, V_w_o0_revisions_452, (by have q := V_w_o0_lastWipeOut_453; simp only [own_G6_1_w_o0_lastWipeOut_1, if_neg hc21_379, if_pos hc34_441, if_neg hc52_442]; exact q), (by have q := V_w_o0_lastRemoval_454; simp only [own_G6_1_w_o0_lastRemoval_1, if_neg hc21_379, if_pos hc34_441, if_neg hc52_442]; exact q), (by have q := V_w_o0_lastStrongRemoval_445; simp only [own_G6_1_w_o0_lastStrongRemoval_1, if_neg hc21_379, if_pos hc34_441, if_neg hc52_442]; exact q), V_w_o0_lastPosition_455⟩
    · refine own_ifN X428 hx (hb hby own_d6_34) (feq hc34_441).1 (q := 37) rfl ?_
      refine own_aloadN X428 hx (hb hby own_d6_37) rfl rfl (q := 38) rfl ?_
      obtain ⟨T459, X459, e459, st459⟩ := getF X428 hx hZ hown (host := "") (Or.inl (hw _ (List.mem_of_getElem? (i := 16) rfl))) Via.refl e428 F_o0_lastWipeOut_431 (g := (mkF m 38 #[.val (.ref o0), .val (.int (1 : Int32)), .val (.int p2), .val (.int p3), .val (.int p4), .val (.int p5), .val (.long (w_w_o0_revisions_1 + (1 : Int64))), .second] [(.ref o0)])) rfl rfl (hb hby own_d6_38)
      refine own_back st459 ?_
      show own_End p e below s _ _ _ (T459.setTop (mkF m 41 #[.val (.ref o0), .val (.int (1 : Int32)), .val (.int p2), .val (.int p3), .val (.int p4), .val (.int p5), .val (.long (w_w_o0_revisions_1 + (1 : Int64))), .second] [(.ref w_o0_lastWipeOut)]))
      refine own_iloadN X459 hx (hb hby own_d6_41) rfl (q := 42) rfl ?_
      refine own_lload X459 hx (hb hby own_d6_42) rfl (q := 44) rfl ?_
      obtain ⟨cl460, Ar460, q460, S460, N460v, H460, G460⟩ := id V_w_o0_lastWipeOut_436
      have hin460 : ¬ ((1 : Int32) < 0 ∨ cl460.slots.size ≤ ((1 : Int32)).toNatClampNeg) := inb_of S460 ⟨by decide, by decide⟩
      obtain ⟨T460, h460, X460, e460, W460, st460⟩ := stJ X459 hx hZ e459 Ar460 (j := (1 : Int32)) hin460 (g := (mkF m 44 #[.val (.ref o0), .val (.int (1 : Int32)), .val (.int p2), .val (.int p3), .val (.int p4), .val (.int p5), .val (.long (w_w_o0_revisions_1 + (1 : Int64))), .second] [(.long (w_w_o0_revisions_1 + (1 : Int64))), (.int (1 : Int32)), (.ref w_o0_lastWipeOut)])) rfl rfl (hb hby own_d6_44)
      have V_w_o0_lastWipeOut_460 : Arv Z h460 w_o0_lastWipeOut k_w_o0_lastWipeOut .long (2 : Int32) [(.long w_w_o0_lastWipeOut_0), (.long (w_w_o0_revisions_1 + (1 : Int64)))] (.long (0 : Int64)) := Arv.set Ar460 q460 S460 N460v H460 G460 rfl W460 1 rfl (Nat.le_of_ble_eq_true rfl)
      have E_o0_461 := E_o0_429.wr W460
      have F_o0_revisions_462 := F_o0_revisions_430.other W460 (Or.inl ne_o0_w_o0_lastWipeOut)
      have F_o0_lastWipeOut_463 := F_o0_lastWipeOut_431.other W460 (Or.inl ne_o0_w_o0_lastWipeOut)
      have F_o0_lastRemoval_464 := F_o0_lastRemoval_432.other W460 (Or.inl ne_o0_w_o0_lastWipeOut)
      have F_o0_lastStrongRemoval_465 := F_o0_lastStrongRemoval_433.other W460 (Or.inl ne_o0_w_o0_lastWipeOut)
      have F_o0_lastPosition_466 := F_o0_lastPosition_434.other W460 (Or.inl ne_o0_w_o0_lastWipeOut)
      have V_w_o0_revisions_467 := V_w_o0_revisions_435.other W460 ne_w_o0_revisions_w_o0_lastWipeOut
      have V_w_o0_lastRemoval_468 := V_w_o0_lastRemoval_428.other W460 (Ne.symm ne_w_o0_lastWipeOut_w_o0_lastRemoval)
      have V_w_o0_lastStrongRemoval_469 := V_w_o0_lastStrongRemoval_437.other W460 (Ne.symm ne_w_o0_lastWipeOut_w_o0_lastStrongRemoval)
      have V_w_o0_lastPosition_470 := V_w_o0_lastPosition_438.other W460 (Ne.symm ne_w_o0_lastWipeOut_w_o0_lastPosition)
      have Kp471 : Keep h0 _ [w_o0_revisions, w_o0_lastWipeOut, w_o0_lastRemoval, w_o0_lastStrongRemoval, w_o0_lastPosition] := Kp439.wr W460 (Or.inl (List.mem_of_getElem? (i := 1) rfl))
      have Z472 := Nat.le_trans Z440 (Keep.of_wr W460).1
      obtain ⟨L460, X460, N460⟩ := own_gl X460 (Fr.snoc X460 N428 g_w_o0_lastWipeOut)
      refine own_back st460 ?_
      show own_End p e below s _ _ _ (T460.setTop (mkF m 45 #[.val (.ref o0), .val (.int (1 : Int32)), .val (.int p2), .val (.int p3), .val (.int p4), .val (.int p5), .val (.long (w_w_o0_revisions_1 + (1 : Int64))), .second] []))
      refine own_iload X460 hx (hb hby own_d6_45) rfl (q := 47) rfl ?_
      refine own_ifY X460 hx (hb hby own_d6_47) (feq hc34_441).2 (q := 55) (by decide) (by decide) ?_
      refine own_aloadN X460 hx (hb hby own_d6_55) rfl rfl (q := 56) rfl ?_
      obtain ⟨T473, X473, e473, st473⟩ := getF X460 hx hZ hown (host := "") (Or.inl (hw _ (List.mem_of_getElem? (i := 20) rfl))) Via.refl e460 F_o0_lastStrongRemoval_465 (g := (mkF m 56 #[.val (.ref o0), .val (.int (1 : Int32)), .val (.int p2), .val (.int p3), .val (.int p4), .val (.int p5), .val (.long (w_w_o0_revisions_1 + (1 : Int64))), .second] [(.ref o0)])) rfl rfl (hb hby own_d6_56)
      refine own_back st473 ?_
      show own_End p e below s _ _ _ (T473.setTop (mkF m 59 #[.val (.ref o0), .val (.int (1 : Int32)), .val (.int p2), .val (.int p3), .val (.int p4), .val (.int p5), .val (.long (w_w_o0_revisions_1 + (1 : Int64))), .second] [(.ref w_o0_lastStrongRemoval)]))
      refine own_iloadN X473 hx (hb hby own_d6_59) rfl (q := 60) rfl ?_
      refine own_lload X473 hx (hb hby own_d6_60) rfl (q := 62) rfl ?_
      obtain ⟨cl474, Ar474, q474, S474, N474v, H474, G474⟩ := id V_w_o0_lastStrongRemoval_469
      have hin474 : ¬ ((1 : Int32) < 0 ∨ cl474.slots.size ≤ ((1 : Int32)).toNatClampNeg) := inb_of S474 ⟨by decide, by decide⟩
      obtain ⟨T474, h474, X474, e474, W474, st474⟩ := stJ X473 hx hZ e473 Ar474 (j := (1 : Int32)) hin474 (g := (mkF m 62 #[.val (.ref o0), .val (.int (1 : Int32)), .val (.int p2), .val (.int p3), .val (.int p4), .val (.int p5), .val (.long (w_w_o0_revisions_1 + (1 : Int64))), .second] [(.long (w_w_o0_revisions_1 + (1 : Int64))), (.int (1 : Int32)), (.ref w_o0_lastStrongRemoval)])) rfl rfl (hb hby own_d6_62)
      have V_w_o0_lastStrongRemoval_474 : Arv Z h474 w_o0_lastStrongRemoval k_w_o0_lastStrongRemoval .long (2 : Int32) [(.long w_w_o0_lastStrongRemoval_0), (.long (w_w_o0_revisions_1 + (1 : Int64)))] (.long (0 : Int64)) := Arv.set Ar474 q474 S474 N474v H474 G474 rfl W474 1 rfl (Nat.le_of_ble_eq_true rfl)
      have E_o0_475 := E_o0_461.wr W474
      have F_o0_revisions_476 := F_o0_revisions_462.other W474 (Or.inl ne_o0_w_o0_lastStrongRemoval)
      have F_o0_lastWipeOut_477 := F_o0_lastWipeOut_463.other W474 (Or.inl ne_o0_w_o0_lastStrongRemoval)
      have F_o0_lastRemoval_478 := F_o0_lastRemoval_464.other W474 (Or.inl ne_o0_w_o0_lastStrongRemoval)
      have F_o0_lastStrongRemoval_479 := F_o0_lastStrongRemoval_465.other W474 (Or.inl ne_o0_w_o0_lastStrongRemoval)
      have F_o0_lastPosition_480 := F_o0_lastPosition_466.other W474 (Or.inl ne_o0_w_o0_lastStrongRemoval)
      have V_w_o0_revisions_481 := V_w_o0_revisions_467.other W474 ne_w_o0_revisions_w_o0_lastStrongRemoval
      have V_w_o0_lastWipeOut_482 := V_w_o0_lastWipeOut_460.other W474 ne_w_o0_lastWipeOut_w_o0_lastStrongRemoval
      have V_w_o0_lastRemoval_483 := V_w_o0_lastRemoval_468.other W474 ne_w_o0_lastRemoval_w_o0_lastStrongRemoval
      have V_w_o0_lastPosition_484 := V_w_o0_lastPosition_470.other W474 (Ne.symm ne_w_o0_lastStrongRemoval_w_o0_lastPosition)
      have Kp485 : Keep h0 _ [w_o0_revisions, w_o0_lastWipeOut, w_o0_lastRemoval, w_o0_lastStrongRemoval, w_o0_lastPosition] := Kp471.wr W474 (Or.inl (List.mem_of_getElem? (i := 3) rfl))
      have Z486 := Nat.le_trans Z472 (Keep.of_wr W474).1
      obtain ⟨L474, X474, N474⟩ := own_gl X474 (Fr.snoc X474 N460 g_w_o0_lastStrongRemoval)
      refine own_back st474 ?_
      show own_End p e below s _ _ _ (T474.setTop (mkF m 63 #[.val (.ref o0), .val (.int (1 : Int32)), .val (.int p2), .val (.int p3), .val (.int p4), .val (.int p5), .val (.long (w_w_o0_revisions_1 + (1 : Int64))), .second] []))
      refine own_retV X474 hx Bd.returns Bd.notSynchronized (by decide) (by decide) (hb hby own_d6_63) ?_
      show own_Q6_1 Z o0 p2 p3 p4 p5 w_o0_revisions w_o0_lastWipeOut w_o0_lastRemoval w_o0_lastStrongRemoval w_o0_lastPosition k_w_o0_revisions w_w_o0_revisions_0 w_w_o0_revisions_1 k_w_o0_lastWipeOut w_w_o0_lastWipeOut_0 w_w_o0_lastWipeOut_1 k_w_o0_lastRemoval w_w_o0_lastRemoval_0 w_w_o0_lastRemoval_1 k_w_o0_lastStrongRemoval w_w_o0_lastStrongRemoval_0 w_w_o0_lastStrongRemoval_1 k_w_o0_lastPosition w_w_o0_lastPosition_0 w_w_o0_lastPosition_1 h0 n0 _ T474.heap _
      rw [e474]
      exact ⟨rfl, N474, Kp485, V_w_o0_revisions_481, (by have q := V_w_o0_lastWipeOut_482; simp only [own_G6_1_w_o0_lastWipeOut_1, if_neg hc21_379, if_neg hc34_441]; exact q), (by have q := V_w_o0_lastRemoval_483; simp only [own_G6_1_w_o0_lastRemoval_1, if_neg hc21_379, if_neg hc34_441]; exact q), (by have q := V_w_o0_lastStrongRemoval_474; simp only [own_G6_1_w_o0_lastStrongRemoval_1, if_neg hc21_379, if_neg hc34_441]; exact q), V_w_o0_lastPosition_484⟩
def own_Q8_1 (Z : State) (o0 : Addr) (w_o0_lastPosition : Addr) (k_w_o0_lastPosition : ClassId) (w_w_o0_lastPosition_0 : Int32) (w_w_o0_lastPosition_1 : Int32) (h0 : Heap) (n0 : Nat) (v : Option Value) (h : Heap) (L : List Loc) : Prop := v = some (.int w_w_o0_lastPosition_1) ∧ Fr n0 L ∧ h = h0
theorem own_pn_rm8_1 : plainName "com/example/arcwise/arcwise/adaptation/History" = true := by first | (simp [plainName, overriddenIn]; done) | decide +kernel
theorem own_ef_rm8_1 (m : MethodId) (o0 : Addr) : entryFrame m #[(.ref o0), (.int (1 : Int32))] 2 = mkF m 0 #[.val (.ref o0), .val (.int (1 : Int32))] [] := by first | (simp [entryFrame, mkF, argsToLocals, Value.category]; done) | rfl
set_option maxRecDepth 65536 in
set_option maxHeartbeats 40000000 in
theorem own_rm8_1 (l : Launch) (Z : State) (a0 : Array Value) (hw : ∀ d ∈ tables_1, d.before a0 Z = true) (ws : List Jvm.Cond) (o0 : Addr) (w_o0_lastPosition : Addr) (k_w_o0_lastPosition : ClassId) (w_w_o0_lastPosition_0 : Int32) (w_w_o0_lastPosition_1 : Int32) (h0 : Heap) (n0 : Nat) (Z0 : n0 ≤ h0.size) (E_o0 : Exa Z h0 o0 "com/example/arcwise/arcwise/adaptation/History") (F_o0_lastPosition : Fld Z h0 o0 "com/example/arcwise/arcwise/adaptation/History" "lastPosition" "[I" (.ref w_o0_lastPosition)) (V_w_o0_lastPosition : Arv Z h0 w_o0_lastPosition k_w_o0_lastPosition .int (2 : Int32) [(.int w_w_o0_lastPosition_0), (.int w_w_o0_lastPosition_1)] (.int (0 : Int32))) :
    MetFree l (⟨"com/example/arcwise/arcwise/adaptation/History", "lastPosition", "(I)I"⟩ : MethodName) (head1 (Jvm.Cond.code (⟨"com/example/arcwise/arcwise/adaptation/History", "lastPosition", "(I)I"⟩ : MethodName) prog_2_method_6_code 2 (some .int) :: ws) ({ frames := 0, cells := 0, slots := 0, locals := 0 } : Room)) (fun a U => a = #[(.ref o0), (.int (1 : Int32))] ∧ Z.Warmed39 U.vm ∧ U.heap = h0) (fun _ _ _ _ _ => True) (fun _ U o U' => ∃ v L, o = .returned v ∧ own_Q8_1 Z o0 w_o0_lastPosition k_w_o0_lastPosition w_w_o0_lastPosition_0 w_w_o0_lastPosition_1 h0 n0 v U'.heap L ∧ FrameEnd U o U' L ({ frames := 0, cells := 0, slots := 0, locals := 0 } : Room).cells ({ frames := 0, cells := 0, slots := 0, locals := 0 } : Room).slots) := by
  refine MetFree.of_bodySF (plainFor_of_name own_pn_rm8_1) hisR ?_
  intro p e s m args below meth c s₁ Bd hml0 hP hK
  obtain ⟨rfl, hZ, hh⟩ := hP
  have hx := Bd.exec
  have hby := Bd.bytes
  have hml : c.maxLocals = 2 := hml0
  have hown : s.vm.findClass "com/example/arcwise/arcwise/adaptation/History" = some m.cls := findClass_of_methodNamed Bd.named
  have hnm := (name_of_methodNamed Bd.named Bd.method).1
  have X0 : Stand p l e ({ frames := 0, cells := 0, slots := 0, locals := 0 } : Room) s m #[(.ref o0), (.int (1 : Int32))] below meth c s₁ [] 0 0 := Stand.of_body Bd
  have e0 : s₁.heap = h0 := by rw [← hh, Bd.state]; rfl
  have N0 := Fr.nil n0
  show own_End p e below s (own_Q8_1 Z o0 w_o0_lastPosition k_w_o0_lastPosition w_w_o0_lastPosition_0 w_w_o0_lastPosition_1 h0 n0) ({ frames := 0, cells := 0, slots := 0, locals := 0 } : Room).cells ({ frames := 0, cells := 0, slots := 0, locals := 0 } : Room).slots (s₁.setTop (entryFrame m #[(.ref o0), (.int (1 : Int32))] 2))
  rw [own_ef_rm8_1]
  refine own_aloadN X0 hx (hb hby own_d8_0) rfl rfl (q := 1) rfl ?_
  obtain ⟨T488, X488, e488, st488⟩ := getF X0 hx hZ hown (host := "") (Or.inl (hw _ (List.mem_of_getElem? (i := 23) rfl))) Via.refl e0 F_o0_lastPosition (g := (mkF m 1 #[.val (.ref o0), .val (.int (1 : Int32))] [(.ref o0)])) rfl rfl (hb hby own_d8_1)
  refine own_back st488 ?_
  show own_End p e below s _ _ _ (T488.setTop (mkF m 4 #[.val (.ref o0), .val (.int (1 : Int32))] [(.ref w_o0_lastPosition)]))
  refine own_iloadN X488 hx (hb hby own_d8_4) rfl (q := 5) rfl ?_
  obtain ⟨cl489, Ar489, q489, S489, N489v, H489, G489⟩ := id V_w_o0_lastPosition
  have hin489 : ¬ ((1 : Int32) < 0 ∨ cl489.slots.size ≤ ((1 : Int32)).toNatClampNeg) := inb_of S489 ⟨by decide, by decide⟩
  refine own_back (X488.iaload hx (j := (1 : Int32)) (v := (.int w_w_o0_lastPosition_1)) (by rw [e488]; exact Ar489.1) (State.isArrayOf_alike hZ.alike Ar489.2.1) Ar489.2.2 hin489 (Has.at H489 hin489 rfl) (g := (mkF m 5 #[.val (.ref o0), .val (.int (1 : Int32))] [(.int (1 : Int32)), (.ref w_o0_lastPosition)])) rfl rfl (hb hby own_d8_5)) ?_
  show own_End p e below s _ _ _ (T488.setTop (mkF m 6 #[.val (.ref o0), .val (.int (1 : Int32))] [(.int w_w_o0_lastPosition_1)]))
  refine own_retI X488 hx Bd.returns Bd.notSynchronized (by decide) (by decide) (hb hby own_d8_6) ?_
  show own_Q8_1 Z o0 w_o0_lastPosition k_w_o0_lastPosition w_w_o0_lastPosition_0 w_w_o0_lastPosition_1 h0 n0 _ T488.heap _
  exact ⟨rfl, N0, e488⟩
def own_F10_1 (w_w_o0_revisions_1 : Int64) (w_o1_1 : Int64) : Int64 := (if w_o1_1 = (-1 : Int64) then (9223372036854775807 : Int64) else (w_w_o0_revisions_1 - w_o1_1))
def own_Q10_1 (Z : State) (o0 : Addr) (o1 : Addr) (w_o0_revisions : Addr) (k_w_o0_revisions : ClassId) (w_w_o0_revisions_0 : Int64) (w_w_o0_revisions_1 : Int64) (k_o1 : ClassId) (w_o1_0 : Int64) (w_o1_1 : Int64) (h0 : Heap) (n0 : Nat) (v : Option Value) (h : Heap) (L : List Loc) : Prop := v = some (.long (own_F10_1 w_w_o0_revisions_1 w_o1_1)) ∧ Fr n0 L ∧ h = h0
theorem own_pn_rm10_1 : plainName "com/example/arcwise/arcwise/adaptation/History" = true := by first | (simp [plainName, overriddenIn]; done) | decide +kernel
theorem own_ef_rm10_1 (m : MethodId) (o0 : Addr) (o1 : Addr) : entryFrame m #[(.ref o0), (.ref o1), (.int (1 : Int32))] 3 = mkF m 0 #[.val (.ref o0), .val (.ref o1), .val (.int (1 : Int32))] [] := by first | (simp [entryFrame, mkF, argsToLocals, Value.category]; done) | rfl
set_option maxRecDepth 65536 in
set_option maxHeartbeats 40000000 in
theorem own_rm10_1 (l : Launch) (Z : State) (a0 : Array Value) (hw : ∀ d ∈ tables_1, d.before a0 Z = true) (ws : List Jvm.Cond) (o0 : Addr) (o1 : Addr) (w_o0_revisions : Addr) (k_w_o0_revisions : ClassId) (w_w_o0_revisions_0 : Int64) (w_w_o0_revisions_1 : Int64) (k_o1 : ClassId) (w_o1_0 : Int64) (w_o1_1 : Int64) (h0 : Heap) (n0 : Nat) (Z0 : n0 ≤ h0.size) (E_o0 : Exa Z h0 o0 "com/example/arcwise/arcwise/adaptation/History") (F_o0_revisions : Fld Z h0 o0 "com/example/arcwise/arcwise/adaptation/History" "revisions" "[J" (.ref w_o0_revisions)) (V_w_o0_revisions : Arv Z h0 w_o0_revisions k_w_o0_revisions .long (2 : Int32) [(.long w_w_o0_revisions_0), (.long w_w_o0_revisions_1)] (.long (0 : Int64))) (V_o1 : Arv Z h0 o1 k_o1 .long (2 : Int32) [(.long w_o1_0), (.long w_o1_1)] (.long (0 : Int64))) :
    MetFree l (⟨"com/example/arcwise/arcwise/adaptation/History", "since", "([JI)J"⟩ : MethodName) (head1 (Jvm.Cond.code (⟨"com/example/arcwise/arcwise/adaptation/History", "since", "([JI)J"⟩ : MethodName) prog_2_method_7_code 3 (some .long) :: ws) ({ frames := 0, cells := 0, slots := 0, locals := 0 } : Room)) (fun a U => a = #[(.ref o0), (.ref o1), (.int (1 : Int32))] ∧ Z.Warmed39 U.vm ∧ U.heap = h0) (fun _ _ _ _ _ => True) (fun _ U o U' => ∃ v L, o = .returned v ∧ own_Q10_1 Z o0 o1 w_o0_revisions k_w_o0_revisions w_w_o0_revisions_0 w_w_o0_revisions_1 k_o1 w_o1_0 w_o1_1 h0 n0 v U'.heap L ∧ FrameEnd U o U' L ({ frames := 0, cells := 0, slots := 0, locals := 0 } : Room).cells ({ frames := 0, cells := 0, slots := 0, locals := 0 } : Room).slots) := by
  refine MetFree.of_bodySF (plainFor_of_name own_pn_rm10_1) hisR ?_
  intro p e s m args below meth c s₁ Bd hml0 hP hK
  obtain ⟨rfl, hZ, hh⟩ := hP
  have hx := Bd.exec
  have hby := Bd.bytes
  have hml : c.maxLocals = 3 := hml0
  have hown : s.vm.findClass "com/example/arcwise/arcwise/adaptation/History" = some m.cls := findClass_of_methodNamed Bd.named
  have hnm := (name_of_methodNamed Bd.named Bd.method).1
  have X0 : Stand p l e ({ frames := 0, cells := 0, slots := 0, locals := 0 } : Room) s m #[(.ref o0), (.ref o1), (.int (1 : Int32))] below meth c s₁ [] 0 0 := Stand.of_body Bd
  have e0 : s₁.heap = h0 := by rw [← hh, Bd.state]; rfl
  have N0 := Fr.nil n0
  show own_End p e below s (own_Q10_1 Z o0 o1 w_o0_revisions k_w_o0_revisions w_w_o0_revisions_0 w_w_o0_revisions_1 k_o1 w_o1_0 w_o1_1 h0 n0) ({ frames := 0, cells := 0, slots := 0, locals := 0 } : Room).cells ({ frames := 0, cells := 0, slots := 0, locals := 0 } : Room).slots (s₁.setTop (entryFrame m #[(.ref o0), (.ref o1), (.int (1 : Int32))] 3))
  rw [own_ef_rm10_1]
  refine own_aloadN X0 hx (hb hby own_d10_0) rfl rfl (q := 1) rfl ?_
  refine own_iloadN X0 hx (hb hby own_d10_1) rfl (q := 2) rfl ?_
  obtain ⟨cl491, Ar491, q491, S491, N491v, H491, G491⟩ := id V_o1
  have hin491 : ¬ ((1 : Int32) < 0 ∨ cl491.slots.size ≤ ((1 : Int32)).toNatClampNeg) := inb_of S491 ⟨by decide, by decide⟩
  refine own_back (X0.laload hx (j := (1 : Int32)) (v := (.long w_o1_1)) (by rw [e0]; exact Ar491.1) (State.isArrayOf_alike hZ.alike Ar491.2.1) Ar491.2.2 hin491 (Has.at H491 hin491 rfl) (g := (mkF m 2 #[.val (.ref o0), .val (.ref o1), .val (.int (1 : Int32))] [(.int (1 : Int32)), (.ref o1)])) rfl rfl (hb hby own_d10_2)) ?_
  show own_End p e below s _ _ _ (s₁.setTop (mkF m 3 #[.val (.ref o0), .val (.ref o1), .val (.int (1 : Int32))] [(.long w_o1_1)]))
  refine own_back (X0.ldc2Long hx hown (mvT hZ (hw _ (List.mem_of_getElem? (i := 25) rfl))) (g := (mkF m 3 #[.val (.ref o0), .val (.ref o1), .val (.int (1 : Int32))] [(.long w_o1_1)])) rfl (hb hby own_d10_3)) ?_
  show own_End p e below s _ _ _ (s₁.setTop (mkF m 6 #[.val (.ref o0), .val (.ref o1), .val (.int (1 : Int32))] [(.long (-1 : Int64)), (.long w_o1_1)]))
  by_cases hc7_492 : w_o1_1 = (-1 : Int64)
  · refine own_lcN X0 hx (hb hby own_d10_6) (r := 7) rfl (hb hby own_d10_7) (own_teq hc7_492).2 (q := 10) rfl ?_
    refine own_back (X0.ldc2Long hx hown (mvT hZ (hw _ (List.mem_of_getElem? (i := 56) rfl))) (g := (mkF m 10 #[.val (.ref o0), .val (.ref o1), .val (.int (1 : Int32))] [])) rfl (hb hby own_d10_10)) ?_
    show own_End p e below s _ _ _ (s₁.setTop (mkF m 13 #[.val (.ref o0), .val (.ref o1), .val (.int (1 : Int32))] [(.long (9223372036854775807 : Int64))]))
    refine own_goto X0 hx (hb hby own_d10_13) (q := 26) (by decide) (by decide) ?_
    refine own_retJ X0 hx Bd.returns Bd.notSynchronized (by decide) (by decide) (hb hby own_d10_26) ?_
    show own_Q10_1 Z o0 o1 w_o0_revisions k_w_o0_revisions w_w_o0_revisions_0 w_w_o0_revisions_1 k_o1 w_o1_0 w_o1_1 h0 n0 _ s₁.heap _
    exact ⟨(by simp only [own_F10_1, if_pos hc7_492]), N0, e0⟩
  · refine own_lcY X0 hx (hb hby own_d10_6) (r := 7) rfl (hb hby own_d10_7) (own_feq hc7_492).2 (q := 16) (by decide) (by decide) ?_
    refine own_aloadN X0 hx (hb hby own_d10_16) rfl rfl (q := 17) rfl ?_
    obtain ⟨T494, X494, e494, st494⟩ := getF X0 hx hZ hown (host := "") (Or.inl (hw _ (List.mem_of_getElem? (i := 14) rfl))) Via.refl e0 F_o0_revisions (g := (mkF m 17 #[.val (.ref o0), .val (.ref o1), .val (.int (1 : Int32))] [(.ref o0)])) rfl rfl (hb hby own_d10_17)
    refine own_back st494 ?_
    show own_End p e below s _ _ _ (T494.setTop (mkF m 20 #[.val (.ref o0), .val (.ref o1), .val (.int (1 : Int32))] [(.ref w_o0_revisions)]))
    refine own_iloadN X494 hx (hb hby own_d10_20) rfl (q := 21) rfl ?_
    obtain ⟨cl495, Ar495, q495, S495, N495v, H495, G495⟩ := id V_w_o0_revisions
    have hin495 : ¬ ((1 : Int32) < 0 ∨ cl495.slots.size ≤ ((1 : Int32)).toNatClampNeg) := inb_of S495 ⟨by decide, by decide⟩
    refine own_back (X494.laload hx (j := (1 : Int32)) (v := (.long w_w_o0_revisions_1)) (by rw [e494]; exact Ar495.1) (State.isArrayOf_alike hZ.alike Ar495.2.1) Ar495.2.2 hin495 (Has.at H495 hin495 rfl) (g := (mkF m 21 #[.val (.ref o0), .val (.ref o1), .val (.int (1 : Int32))] [(.int (1 : Int32)), (.ref w_o0_revisions)])) rfl rfl (hb hby own_d10_21)) ?_
    show own_End p e below s _ _ _ (T494.setTop (mkF m 22 #[.val (.ref o0), .val (.ref o1), .val (.int (1 : Int32))] [(.long w_w_o0_revisions_1)]))
    refine own_aloadN X494 hx (hb hby own_d10_22) rfl rfl (q := 23) rfl ?_
    refine own_iloadN X494 hx (hb hby own_d10_23) rfl (q := 24) rfl ?_
    obtain ⟨cl496, Ar496, q496, S496, N496v, H496, G496⟩ := id V_o1
    have hin496 : ¬ ((1 : Int32) < 0 ∨ cl496.slots.size ≤ ((1 : Int32)).toNatClampNeg) := inb_of S496 ⟨by decide, by decide⟩
    refine own_back (X494.laload hx (j := (1 : Int32)) (v := (.long w_o1_1)) (by rw [e494]; exact Ar496.1) (State.isArrayOf_alike hZ.alike Ar496.2.1) Ar496.2.2 hin496 (Has.at H496 hin496 rfl) (g := (mkF m 24 #[.val (.ref o0), .val (.ref o1), .val (.int (1 : Int32))] [(.int (1 : Int32)), (.ref o1), (.long w_w_o0_revisions_1)])) rfl rfl (hb hby own_d10_24)) ?_
    show own_End p e below s _ _ _ (T494.setTop (mkF m 25 #[.val (.ref o0), .val (.ref o1), .val (.int (1 : Int32))] [(.long w_o1_1), (.long w_w_o0_revisions_1)]))
    refine own_lsub X494 hx (hb hby own_d10_25) (q := 26) rfl ?_
    refine own_retJ X494 hx Bd.returns Bd.notSynchronized (by decide) (by decide) (hb hby own_d10_26) ?_
    show own_Q10_1 Z o0 o1 w_o0_revisions k_w_o0_revisions w_w_o0_revisions_0 w_w_o0_revisions_1 k_o1 w_o1_0 w_o1_1 h0 n0 _ T494.heap _
    exact ⟨(by simp only [own_F10_1, if_neg hc7_492]), N0, e494⟩
def own_Q9_1 (Z : State) (o0 : Addr) (w_o0_revisions : Addr) (w_o0_lastRemoval : Addr) (k_w_o0_revisions : ClassId) (w_w_o0_revisions_0 : Int64) (w_w_o0_revisions_1 : Int64) (k_w_o0_lastRemoval : ClassId) (w_w_o0_lastRemoval_0 : Int64) (w_w_o0_lastRemoval_1 : Int64) (h0 : Heap) (n0 : Nat) (v : Option Value) (h : Heap) (L : List Loc) : Prop := v = some (.long (own_F10_1 w_w_o0_revisions_1 w_w_o0_lastRemoval_1)) ∧ Fr n0 L ∧ h = h0
theorem own_pn_rm9_1 : plainName "com/example/arcwise/arcwise/adaptation/History" = true := by first | (simp [plainName, overriddenIn]; done) | decide +kernel
theorem own_ef_rm9_1 (m : MethodId) (o0 : Addr) : entryFrame m #[(.ref o0), (.int (1 : Int32))] 2 = mkF m 0 #[.val (.ref o0), .val (.int (1 : Int32))] [] := by first | (simp [entryFrame, mkF, argsToLocals, Value.category]; done) | rfl
set_option maxRecDepth 65536 in
set_option maxHeartbeats 40000000 in
theorem own_rm9_1 (l : Launch) (Z : State) (a0 : Array Value) (hw : ∀ d ∈ tables_1, d.before a0 Z = true) (ws : List Jvm.Cond) (o0 : Addr) (w_o0_revisions : Addr) (w_o0_lastRemoval : Addr) (k_w_o0_revisions : ClassId) (w_w_o0_revisions_0 : Int64) (w_w_o0_revisions_1 : Int64) (k_w_o0_lastRemoval : ClassId) (w_w_o0_lastRemoval_0 : Int64) (w_w_o0_lastRemoval_1 : Int64) (h0 : Heap) (n0 : Nat) (Z0 : n0 ≤ h0.size) (E_o0 : Exa Z h0 o0 "com/example/arcwise/arcwise/adaptation/History") (F_o0_revisions : Fld Z h0 o0 "com/example/arcwise/arcwise/adaptation/History" "revisions" "[J" (.ref w_o0_revisions)) (F_o0_lastRemoval : Fld Z h0 o0 "com/example/arcwise/arcwise/adaptation/History" "lastRemoval" "[J" (.ref w_o0_lastRemoval)) (V_w_o0_revisions : Arv Z h0 w_o0_revisions k_w_o0_revisions .long (2 : Int32) [(.long w_w_o0_revisions_0), (.long w_w_o0_revisions_1)] (.long (0 : Int64))) (V_w_o0_lastRemoval : Arv Z h0 w_o0_lastRemoval k_w_o0_lastRemoval .long (2 : Int32) [(.long w_w_o0_lastRemoval_0), (.long w_w_o0_lastRemoval_1)] (.long (0 : Int64))) :
    MetFree l (⟨"com/example/arcwise/arcwise/adaptation/History", "sinceRemoval", "(I)J"⟩ : MethodName) (head1 (Jvm.Cond.code (⟨"com/example/arcwise/arcwise/adaptation/History", "sinceRemoval", "(I)J"⟩ : MethodName) prog_2_method_4_code 2 (some .long) :: ws) ({ frames := 1, cells := 0, slots := 0, locals := 14 } : Room)) (fun a U => a = #[(.ref o0), (.int (1 : Int32))] ∧ Z.Warmed39 U.vm ∧ U.heap = h0) (fun _ _ _ _ _ => True) (fun _ U o U' => ∃ v L, o = .returned v ∧ own_Q9_1 Z o0 w_o0_revisions w_o0_lastRemoval k_w_o0_revisions w_w_o0_revisions_0 w_w_o0_revisions_1 k_w_o0_lastRemoval w_w_o0_lastRemoval_0 w_w_o0_lastRemoval_1 h0 n0 v U'.heap L ∧ FrameEnd U o U' L ({ frames := 1, cells := 0, slots := 0, locals := 14 } : Room).cells ({ frames := 1, cells := 0, slots := 0, locals := 14 } : Room).slots) := by
  refine MetFree.of_bodySF (plainFor_of_name own_pn_rm9_1) hisR ?_
  intro p e s m args below meth c s₁ Bd hml0 hP hK
  obtain ⟨rfl, hZ, hh⟩ := hP
  have hx := Bd.exec
  have hby := Bd.bytes
  have hml : c.maxLocals = 2 := hml0
  have hown : s.vm.findClass "com/example/arcwise/arcwise/adaptation/History" = some m.cls := findClass_of_methodNamed Bd.named
  have hnm := (name_of_methodNamed Bd.named Bd.method).1
  have X0 : Stand p l e ({ frames := 1, cells := 0, slots := 0, locals := 14 } : Room) s m #[(.ref o0), (.int (1 : Int32))] below meth c s₁ [] 0 0 := Stand.of_body Bd
  have e0 : s₁.heap = h0 := by rw [← hh, Bd.state]; rfl
  have N0 := Fr.nil n0
  show own_End p e below s (own_Q9_1 Z o0 w_o0_revisions w_o0_lastRemoval k_w_o0_revisions w_w_o0_revisions_0 w_w_o0_revisions_1 k_w_o0_lastRemoval w_w_o0_lastRemoval_0 w_w_o0_lastRemoval_1 h0 n0) ({ frames := 1, cells := 0, slots := 0, locals := 14 } : Room).cells ({ frames := 1, cells := 0, slots := 0, locals := 14 } : Room).slots (s₁.setTop (entryFrame m #[(.ref o0), (.int (1 : Int32))] 2))
  rw [own_ef_rm9_1]
  refine own_aloadN X0 hx (hb hby own_d9_0) rfl rfl (q := 1) rfl ?_
  refine own_aloadN X0 hx (hb hby own_d9_1) rfl rfl (q := 2) rfl ?_
  obtain ⟨T498, X498, e498, st498⟩ := getF X0 hx hZ hown (host := "") (Or.inl (hw _ (List.mem_of_getElem? (i := 18) rfl))) Via.refl e0 F_o0_lastRemoval (g := (mkF m 2 #[.val (.ref o0), .val (.int (1 : Int32))] [(.ref o0), (.ref o0)])) rfl rfl (hb hby own_d9_2)
  refine own_back st498 ?_
  show own_End p e below s _ _ _ (T498.setTop (mkF m 5 #[.val (.ref o0), .val (.int (1 : Int32))] [(.ref w_o0_lastRemoval), (.ref o0)]))
  refine own_iloadN X498 hx (hb hby own_d9_5) rfl (q := 6) rfl ?_
  obtain ⟨cq499, q499, q499'⟩ := E_o0.cell
  obtain ⟨T499, Lc499, L499, X499, N499, hQ499, st499⟩ := own_shutV (val := some (.long (own_F10_1 w_w_o0_revisions_1 w_w_o0_lastRemoval_1))) (Q := own_Q10_1 Z o0 w_o0_lastRemoval w_o0_revisions k_w_o0_revisions w_w_o0_revisions_0 w_w_o0_revisions_1 k_w_o0_lastRemoval w_w_o0_lastRemoval_0 w_w_o0_lastRemoval_1 h0 n0) (rc := 0) (rs := 0) N0 (fun _ _ _ q => ⟨q.1, q.2.1⟩) (X498.privateBack hx (y := (⟨"com/example/arcwise/arcwise/adaptation/History", "since", "([JI)J"⟩ : MethodName)) hown (mvT hZ (hw _ (List.mem_of_getElem? (i := 52) rfl))) (mvT hZ (hw _ (List.mem_of_getElem? (i := 53) rfl))) (own_selfsel (mvT hZ (hw _ (List.mem_of_getElem? (i := 5) rfl))) (Cond.privateMethod_at (mvP hZ (hw _ (List.mem_of_getElem? (i := 54) rfl)) (args := #[]))) (mvT hZ (hw _ (List.mem_of_getElem? (i := 53) rfl))) (by decide)) (Cond.privateMethod_at (mvP hZ (hw _ (List.mem_of_getElem? (i := 54) rfl)) (args := #[]))) (mvT hZ (hw _ (List.mem_of_getElem? (i := 55) rfl))) (by decide) (backOf (W := 0) (own_rm10_1 l Z a0 hw [] o0 w_o0_lastRemoval w_o0_revisions k_w_o0_revisions w_w_o0_revisions_0 w_w_o0_revisions_1 k_w_o0_lastRemoval w_w_o0_lastRemoval_0 w_w_o0_lastRemoval_1 h0 n0 Z0 E_o0 F_o0_revisions V_w_o0_revisions V_w_o0_lastRemoval) hZ (hw _ (List.mem_of_getElem? (i := 55) rfl)) (hw _ (List.mem_of_getElem? (i := 6) rfl)) (by decide) (by decide)) (g := (mkF m 6 #[.val (.ref o0), .val (.int (1 : Int32))] [(.int (1 : Int32)), (.ref w_o0_lastRemoval), (.ref o0)])) rfl (by rw [hml]; rfl) (Steps.refl _) (a := o0) (by rw [e498]; exact q499) q499' (argsL := [(.ref w_o0_lastRemoval), (.int (1 : Int32))]) (rest := []) (lenOf own_pd2 rfl) rfl (by show 2 * 0 + _ ≤ _; exact Nat.le_of_eq rfl) (hb hby own_d9_6) (fun _ _ => ⟨rfl, e498, (by decide : 0 + 0 ≤ _), (by decide : 0 + 0 ≤ _)⟩))
  obtain ⟨-, -, e499⟩ := hQ499
  refine own_via st499 ?_
  show own_End p e below s _ _ _ (T499.setTop (mkF m 9 #[.val (.ref o0), .val (.int (1 : Int32))] [(.long (own_F10_1 w_w_o0_revisions_1 w_w_o0_lastRemoval_1))]))
  refine own_retJ X499 hx Bd.returns Bd.notSynchronized (by decide) (by decide) (hb hby own_d9_9) ?_
  show own_Q9_1 Z o0 w_o0_revisions w_o0_lastRemoval k_w_o0_revisions w_w_o0_revisions_0 w_w_o0_revisions_1 k_w_o0_lastRemoval w_w_o0_lastRemoval_0 w_w_o0_lastRemoval_1 h0 n0 _ T499.heap _
  exact ⟨rfl, N499, e499⟩
def own_Q11_1 (Z : State) (o0 : Addr) (w_o0_revisions : Addr) (w_o0_lastWipeOut : Addr) (k_w_o0_revisions : ClassId) (w_w_o0_revisions_0 : Int64) (w_w_o0_revisions_1 : Int64) (k_w_o0_lastWipeOut : ClassId) (w_w_o0_lastWipeOut_0 : Int64) (w_w_o0_lastWipeOut_1 : Int64) (h0 : Heap) (n0 : Nat) (v : Option Value) (h : Heap) (L : List Loc) : Prop := v = some (.long (own_F10_1 w_w_o0_revisions_1 w_w_o0_lastWipeOut_1)) ∧ Fr n0 L ∧ h = h0
theorem own_pn_rm11_1 : plainName "com/example/arcwise/arcwise/adaptation/History" = true := by first | (simp [plainName, overriddenIn]; done) | decide +kernel
theorem own_ef_rm11_1 (m : MethodId) (o0 : Addr) : entryFrame m #[(.ref o0), (.int (1 : Int32))] 2 = mkF m 0 #[.val (.ref o0), .val (.int (1 : Int32))] [] := by first | (simp [entryFrame, mkF, argsToLocals, Value.category]; done) | rfl
set_option maxRecDepth 65536 in
set_option maxHeartbeats 40000000 in
theorem own_rm11_1 (l : Launch) (Z : State) (a0 : Array Value) (hw : ∀ d ∈ tables_1, d.before a0 Z = true) (ws : List Jvm.Cond) (o0 : Addr) (w_o0_revisions : Addr) (w_o0_lastWipeOut : Addr) (k_w_o0_revisions : ClassId) (w_w_o0_revisions_0 : Int64) (w_w_o0_revisions_1 : Int64) (k_w_o0_lastWipeOut : ClassId) (w_w_o0_lastWipeOut_0 : Int64) (w_w_o0_lastWipeOut_1 : Int64) (h0 : Heap) (n0 : Nat) (Z0 : n0 ≤ h0.size) (E_o0 : Exa Z h0 o0 "com/example/arcwise/arcwise/adaptation/History") (F_o0_revisions : Fld Z h0 o0 "com/example/arcwise/arcwise/adaptation/History" "revisions" "[J" (.ref w_o0_revisions)) (F_o0_lastWipeOut : Fld Z h0 o0 "com/example/arcwise/arcwise/adaptation/History" "lastWipeOut" "[J" (.ref w_o0_lastWipeOut)) (V_w_o0_revisions : Arv Z h0 w_o0_revisions k_w_o0_revisions .long (2 : Int32) [(.long w_w_o0_revisions_0), (.long w_w_o0_revisions_1)] (.long (0 : Int64))) (V_w_o0_lastWipeOut : Arv Z h0 w_o0_lastWipeOut k_w_o0_lastWipeOut .long (2 : Int32) [(.long w_w_o0_lastWipeOut_0), (.long w_w_o0_lastWipeOut_1)] (.long (0 : Int64))) :
    MetFree l (⟨"com/example/arcwise/arcwise/adaptation/History", "sinceWipeOut", "(I)J"⟩ : MethodName) (head1 (Jvm.Cond.code (⟨"com/example/arcwise/arcwise/adaptation/History", "sinceWipeOut", "(I)J"⟩ : MethodName) prog_2_method_3_code 2 (some .long) :: ws) ({ frames := 1, cells := 0, slots := 0, locals := 14 } : Room)) (fun a U => a = #[(.ref o0), (.int (1 : Int32))] ∧ Z.Warmed39 U.vm ∧ U.heap = h0) (fun _ _ _ _ _ => True) (fun _ U o U' => ∃ v L, o = .returned v ∧ own_Q11_1 Z o0 w_o0_revisions w_o0_lastWipeOut k_w_o0_revisions w_w_o0_revisions_0 w_w_o0_revisions_1 k_w_o0_lastWipeOut w_w_o0_lastWipeOut_0 w_w_o0_lastWipeOut_1 h0 n0 v U'.heap L ∧ FrameEnd U o U' L ({ frames := 1, cells := 0, slots := 0, locals := 14 } : Room).cells ({ frames := 1, cells := 0, slots := 0, locals := 14 } : Room).slots) := by
  refine MetFree.of_bodySF (plainFor_of_name own_pn_rm11_1) hisR ?_
  intro p e s m args below meth c s₁ Bd hml0 hP hK
  obtain ⟨rfl, hZ, hh⟩ := hP
  have hx := Bd.exec
  have hby := Bd.bytes
  have hml : c.maxLocals = 2 := hml0
  have hown : s.vm.findClass "com/example/arcwise/arcwise/adaptation/History" = some m.cls := findClass_of_methodNamed Bd.named
  have hnm := (name_of_methodNamed Bd.named Bd.method).1
  have X0 : Stand p l e ({ frames := 1, cells := 0, slots := 0, locals := 14 } : Room) s m #[(.ref o0), (.int (1 : Int32))] below meth c s₁ [] 0 0 := Stand.of_body Bd
  have e0 : s₁.heap = h0 := by rw [← hh, Bd.state]; rfl
  have N0 := Fr.nil n0
  show own_End p e below s (own_Q11_1 Z o0 w_o0_revisions w_o0_lastWipeOut k_w_o0_revisions w_w_o0_revisions_0 w_w_o0_revisions_1 k_w_o0_lastWipeOut w_w_o0_lastWipeOut_0 w_w_o0_lastWipeOut_1 h0 n0) ({ frames := 1, cells := 0, slots := 0, locals := 14 } : Room).cells ({ frames := 1, cells := 0, slots := 0, locals := 14 } : Room).slots (s₁.setTop (entryFrame m #[(.ref o0), (.int (1 : Int32))] 2))
  rw [own_ef_rm11_1]
  refine own_aloadN X0 hx (hb hby own_d11_0) rfl rfl (q := 1) rfl ?_
  refine own_aloadN X0 hx (hb hby own_d11_1) rfl rfl (q := 2) rfl ?_
  obtain ⟨T501, X501, e501, st501⟩ := getF X0 hx hZ hown (host := "") (Or.inl (hw _ (List.mem_of_getElem? (i := 16) rfl))) Via.refl e0 F_o0_lastWipeOut (g := (mkF m 2 #[.val (.ref o0), .val (.int (1 : Int32))] [(.ref o0), (.ref o0)])) rfl rfl (hb hby own_d11_2)
  refine own_back st501 ?_
  show own_End p e below s _ _ _ (T501.setTop (mkF m 5 #[.val (.ref o0), .val (.int (1 : Int32))] [(.ref w_o0_lastWipeOut), (.ref o0)]))
  refine own_iloadN X501 hx (hb hby own_d11_5) rfl (q := 6) rfl ?_
  obtain ⟨cq502, q502, q502'⟩ := E_o0.cell
  obtain ⟨T502, Lc502, L502, X502, N502, hQ502, st502⟩ := own_shutV (val := some (.long (own_F10_1 w_w_o0_revisions_1 w_w_o0_lastWipeOut_1))) (Q := own_Q10_1 Z o0 w_o0_lastWipeOut w_o0_revisions k_w_o0_revisions w_w_o0_revisions_0 w_w_o0_revisions_1 k_w_o0_lastWipeOut w_w_o0_lastWipeOut_0 w_w_o0_lastWipeOut_1 h0 n0) (rc := 0) (rs := 0) N0 (fun _ _ _ q => ⟨q.1, q.2.1⟩) (X501.privateBack hx (y := (⟨"com/example/arcwise/arcwise/adaptation/History", "since", "([JI)J"⟩ : MethodName)) hown (mvT hZ (hw _ (List.mem_of_getElem? (i := 52) rfl))) (mvT hZ (hw _ (List.mem_of_getElem? (i := 53) rfl))) (own_selfsel (mvT hZ (hw _ (List.mem_of_getElem? (i := 5) rfl))) (Cond.privateMethod_at (mvP hZ (hw _ (List.mem_of_getElem? (i := 54) rfl)) (args := #[]))) (mvT hZ (hw _ (List.mem_of_getElem? (i := 53) rfl))) (by decide)) (Cond.privateMethod_at (mvP hZ (hw _ (List.mem_of_getElem? (i := 54) rfl)) (args := #[]))) (mvT hZ (hw _ (List.mem_of_getElem? (i := 55) rfl))) (by decide) (backOf (W := 0) (own_rm10_1 l Z a0 hw [] o0 w_o0_lastWipeOut w_o0_revisions k_w_o0_revisions w_w_o0_revisions_0 w_w_o0_revisions_1 k_w_o0_lastWipeOut w_w_o0_lastWipeOut_0 w_w_o0_lastWipeOut_1 h0 n0 Z0 E_o0 F_o0_revisions V_w_o0_revisions V_w_o0_lastWipeOut) hZ (hw _ (List.mem_of_getElem? (i := 55) rfl)) (hw _ (List.mem_of_getElem? (i := 6) rfl)) (by decide) (by decide)) (g := (mkF m 6 #[.val (.ref o0), .val (.int (1 : Int32))] [(.int (1 : Int32)), (.ref w_o0_lastWipeOut), (.ref o0)])) rfl (by rw [hml]; rfl) (Steps.refl _) (a := o0) (by rw [e501]; exact q502) q502' (argsL := [(.ref w_o0_lastWipeOut), (.int (1 : Int32))]) (rest := []) (lenOf own_pd2 rfl) rfl (by show 2 * 0 + _ ≤ _; exact Nat.le_of_eq rfl) (hb hby own_d11_6) (fun _ _ => ⟨rfl, e501, (by decide : 0 + 0 ≤ _), (by decide : 0 + 0 ≤ _)⟩))
  obtain ⟨-, -, e502⟩ := hQ502
  refine own_via st502 ?_
  show own_End p e below s _ _ _ (T502.setTop (mkF m 9 #[.val (.ref o0), .val (.int (1 : Int32))] [(.long (own_F10_1 w_w_o0_revisions_1 w_w_o0_lastWipeOut_1))]))
  refine own_retJ X502 hx Bd.returns Bd.notSynchronized (by decide) (by decide) (hb hby own_d11_9) ?_
  show own_Q11_1 Z o0 w_o0_revisions w_o0_lastWipeOut k_w_o0_revisions w_w_o0_revisions_0 w_w_o0_revisions_1 k_w_o0_lastWipeOut w_w_o0_lastWipeOut_0 w_w_o0_lastWipeOut_1 h0 n0 _ T502.heap _
  exact ⟨rfl, N502, e502⟩
def own_Q12_1 (Z : State) (o0 : Addr) (w_o0_revisions : Addr) (w_o0_lastStrongRemoval : Addr) (k_w_o0_revisions : ClassId) (w_w_o0_revisions_0 : Int64) (w_w_o0_revisions_1 : Int64) (k_w_o0_lastStrongRemoval : ClassId) (w_w_o0_lastStrongRemoval_0 : Int64) (w_w_o0_lastStrongRemoval_1 : Int64) (h0 : Heap) (n0 : Nat) (v : Option Value) (h : Heap) (L : List Loc) : Prop := v = some (.long (own_F10_1 w_w_o0_revisions_1 w_w_o0_lastStrongRemoval_1)) ∧ Fr n0 L ∧ h = h0
theorem own_pn_rm12_1 : plainName "com/example/arcwise/arcwise/adaptation/History" = true := by first | (simp [plainName, overriddenIn]; done) | decide +kernel
theorem own_ef_rm12_1 (m : MethodId) (o0 : Addr) : entryFrame m #[(.ref o0), (.int (1 : Int32))] 2 = mkF m 0 #[.val (.ref o0), .val (.int (1 : Int32))] [] := by first | (simp [entryFrame, mkF, argsToLocals, Value.category]; done) | rfl
set_option maxRecDepth 65536 in
set_option maxHeartbeats 40000000 in
theorem own_rm12_1 (l : Launch) (Z : State) (a0 : Array Value) (hw : ∀ d ∈ tables_1, d.before a0 Z = true) (ws : List Jvm.Cond) (o0 : Addr) (w_o0_revisions : Addr) (w_o0_lastStrongRemoval : Addr) (k_w_o0_revisions : ClassId) (w_w_o0_revisions_0 : Int64) (w_w_o0_revisions_1 : Int64) (k_w_o0_lastStrongRemoval : ClassId) (w_w_o0_lastStrongRemoval_0 : Int64) (w_w_o0_lastStrongRemoval_1 : Int64) (h0 : Heap) (n0 : Nat) (Z0 : n0 ≤ h0.size) (E_o0 : Exa Z h0 o0 "com/example/arcwise/arcwise/adaptation/History") (F_o0_revisions : Fld Z h0 o0 "com/example/arcwise/arcwise/adaptation/History" "revisions" "[J" (.ref w_o0_revisions)) (F_o0_lastStrongRemoval : Fld Z h0 o0 "com/example/arcwise/arcwise/adaptation/History" "lastStrongRemoval" "[J" (.ref w_o0_lastStrongRemoval)) (V_w_o0_revisions : Arv Z h0 w_o0_revisions k_w_o0_revisions .long (2 : Int32) [(.long w_w_o0_revisions_0), (.long w_w_o0_revisions_1)] (.long (0 : Int64))) (V_w_o0_lastStrongRemoval : Arv Z h0 w_o0_lastStrongRemoval k_w_o0_lastStrongRemoval .long (2 : Int32) [(.long w_w_o0_lastStrongRemoval_0), (.long w_w_o0_lastStrongRemoval_1)] (.long (0 : Int64))) :
    MetFree l (⟨"com/example/arcwise/arcwise/adaptation/History", "sinceStrongRemoval", "(I)J"⟩ : MethodName) (head1 (Jvm.Cond.code (⟨"com/example/arcwise/arcwise/adaptation/History", "sinceStrongRemoval", "(I)J"⟩ : MethodName) prog_2_method_5_code 2 (some .long) :: ws) ({ frames := 1, cells := 0, slots := 0, locals := 14 } : Room)) (fun a U => a = #[(.ref o0), (.int (1 : Int32))] ∧ Z.Warmed39 U.vm ∧ U.heap = h0) (fun _ _ _ _ _ => True) (fun _ U o U' => ∃ v L, o = .returned v ∧ own_Q12_1 Z o0 w_o0_revisions w_o0_lastStrongRemoval k_w_o0_revisions w_w_o0_revisions_0 w_w_o0_revisions_1 k_w_o0_lastStrongRemoval w_w_o0_lastStrongRemoval_0 w_w_o0_lastStrongRemoval_1 h0 n0 v U'.heap L ∧ FrameEnd U o U' L ({ frames := 1, cells := 0, slots := 0, locals := 14 } : Room).cells ({ frames := 1, cells := 0, slots := 0, locals := 14 } : Room).slots) := by
  refine MetFree.of_bodySF (plainFor_of_name own_pn_rm12_1) hisR ?_
  intro p e s m args below meth c s₁ Bd hml0 hP hK
  obtain ⟨rfl, hZ, hh⟩ := hP
  have hx := Bd.exec
  have hby := Bd.bytes
  have hml : c.maxLocals = 2 := hml0
  have hown : s.vm.findClass "com/example/arcwise/arcwise/adaptation/History" = some m.cls := findClass_of_methodNamed Bd.named
  have hnm := (name_of_methodNamed Bd.named Bd.method).1
  have X0 : Stand p l e ({ frames := 1, cells := 0, slots := 0, locals := 14 } : Room) s m #[(.ref o0), (.int (1 : Int32))] below meth c s₁ [] 0 0 := Stand.of_body Bd
  have e0 : s₁.heap = h0 := by rw [← hh, Bd.state]; rfl
  have N0 := Fr.nil n0
  show own_End p e below s (own_Q12_1 Z o0 w_o0_revisions w_o0_lastStrongRemoval k_w_o0_revisions w_w_o0_revisions_0 w_w_o0_revisions_1 k_w_o0_lastStrongRemoval w_w_o0_lastStrongRemoval_0 w_w_o0_lastStrongRemoval_1 h0 n0) ({ frames := 1, cells := 0, slots := 0, locals := 14 } : Room).cells ({ frames := 1, cells := 0, slots := 0, locals := 14 } : Room).slots (s₁.setTop (entryFrame m #[(.ref o0), (.int (1 : Int32))] 2))
  rw [own_ef_rm12_1]
  refine own_aloadN X0 hx (hb hby own_d12_0) rfl rfl (q := 1) rfl ?_
  refine own_aloadN X0 hx (hb hby own_d12_1) rfl rfl (q := 2) rfl ?_
  obtain ⟨T504, X504, e504, st504⟩ := getF X0 hx hZ hown (host := "") (Or.inl (hw _ (List.mem_of_getElem? (i := 20) rfl))) Via.refl e0 F_o0_lastStrongRemoval (g := (mkF m 2 #[.val (.ref o0), .val (.int (1 : Int32))] [(.ref o0), (.ref o0)])) rfl rfl (hb hby own_d12_2)
  refine own_back st504 ?_
  show own_End p e below s _ _ _ (T504.setTop (mkF m 5 #[.val (.ref o0), .val (.int (1 : Int32))] [(.ref w_o0_lastStrongRemoval), (.ref o0)]))
  refine own_iloadN X504 hx (hb hby own_d12_5) rfl (q := 6) rfl ?_
  obtain ⟨cq505, q505, q505'⟩ := E_o0.cell
  obtain ⟨T505, Lc505, L505, X505, N505, hQ505, st505⟩ := own_shutV (val := some (.long (own_F10_1 w_w_o0_revisions_1 w_w_o0_lastStrongRemoval_1))) (Q := own_Q10_1 Z o0 w_o0_lastStrongRemoval w_o0_revisions k_w_o0_revisions w_w_o0_revisions_0 w_w_o0_revisions_1 k_w_o0_lastStrongRemoval w_w_o0_lastStrongRemoval_0 w_w_o0_lastStrongRemoval_1 h0 n0) (rc := 0) (rs := 0) N0 (fun _ _ _ q => ⟨q.1, q.2.1⟩) (X504.privateBack hx (y := (⟨"com/example/arcwise/arcwise/adaptation/History", "since", "([JI)J"⟩ : MethodName)) hown (mvT hZ (hw _ (List.mem_of_getElem? (i := 52) rfl))) (mvT hZ (hw _ (List.mem_of_getElem? (i := 53) rfl))) (own_selfsel (mvT hZ (hw _ (List.mem_of_getElem? (i := 5) rfl))) (Cond.privateMethod_at (mvP hZ (hw _ (List.mem_of_getElem? (i := 54) rfl)) (args := #[]))) (mvT hZ (hw _ (List.mem_of_getElem? (i := 53) rfl))) (by decide)) (Cond.privateMethod_at (mvP hZ (hw _ (List.mem_of_getElem? (i := 54) rfl)) (args := #[]))) (mvT hZ (hw _ (List.mem_of_getElem? (i := 55) rfl))) (by decide) (backOf (W := 0) (own_rm10_1 l Z a0 hw [] o0 w_o0_lastStrongRemoval w_o0_revisions k_w_o0_revisions w_w_o0_revisions_0 w_w_o0_revisions_1 k_w_o0_lastStrongRemoval w_w_o0_lastStrongRemoval_0 w_w_o0_lastStrongRemoval_1 h0 n0 Z0 E_o0 F_o0_revisions V_w_o0_revisions V_w_o0_lastStrongRemoval) hZ (hw _ (List.mem_of_getElem? (i := 55) rfl)) (hw _ (List.mem_of_getElem? (i := 6) rfl)) (by decide) (by decide)) (g := (mkF m 6 #[.val (.ref o0), .val (.int (1 : Int32))] [(.int (1 : Int32)), (.ref w_o0_lastStrongRemoval), (.ref o0)])) rfl (by rw [hml]; rfl) (Steps.refl _) (a := o0) (by rw [e504]; exact q505) q505' (argsL := [(.ref w_o0_lastStrongRemoval), (.int (1 : Int32))]) (rest := []) (lenOf own_pd2 rfl) rfl (by show 2 * 0 + _ ≤ _; exact Nat.le_of_eq rfl) (hb hby own_d12_6) (fun _ _ => ⟨rfl, e504, (by decide : 0 + 0 ≤ _), (by decide : 0 + 0 ≤ _)⟩))
  obtain ⟨-, -, e505⟩ := hQ505
  refine own_via st505 ?_
  show own_End p e below s _ _ _ (T505.setTop (mkF m 9 #[.val (.ref o0), .val (.int (1 : Int32))] [(.long (own_F10_1 w_w_o0_revisions_1 w_w_o0_lastStrongRemoval_1))]))
  refine own_retJ X505 hx Bd.returns Bd.notSynchronized (by decide) (by decide) (hb hby own_d12_9) ?_
  show own_Q12_1 Z o0 w_o0_revisions w_o0_lastStrongRemoval k_w_o0_revisions w_w_o0_revisions_0 w_w_o0_revisions_1 k_w_o0_lastStrongRemoval w_w_o0_lastStrongRemoval_0 w_w_o0_lastStrongRemoval_1 h0 n0 _ T505.heap _
  exact ⟨rfl, N505, e505⟩
theorem own_and1 (x : Int32) (h : ¬ (x &&& 1) = 0) : (x &&& 1) = 1 := by
  have e1 : (x &&& 1).toInt = x.toInt % 2 ^ 1 := Jvm.Kit.i32_mask x 1 (k := 1) (by decide) (by decide)
  have n : (x &&& 1).toInt ≠ 0 := fun q => h (Int32.toInt_inj.mp (by rw [q]; decide))
  apply Int32.toInt_inj.mp
  have : (1 : Int32).toInt = 1 := by decide
  omega
theorem own_bit (p k : Int32) : own_F1 p k = 0 ∨ own_F1 p k = 1 := by
  rw [own_F1]; split
  · exact Or.inl rfl
  · exact Or.inr rfl
theorem own_pd3 : parseMethodDescriptor "(II)Z" = some ⟨[.int, .int], some .boolean⟩ := by decide +kernel
theorem own_pd4 : parseMethodDescriptor "(I)V" = some ⟨[.int], none⟩ := by decide +kernel
theorem own_pd5 : parseMethodDescriptor "(IIZZZ)V" = some ⟨[.int, .int, .boolean, .boolean, .boolean], none⟩ := by decide +kernel
theorem own_pd6 : parseMethodDescriptor "(ZZ)J" = some ⟨[.boolean, .boolean], some .long⟩ := by decide +kernel
def own_M0_163 (p4 : Int32) : Int32 := (if (own_F1 p4 (5 : Int32)) = (0 : Int32) then (0 : Int32) else (1 : Int32))
def own_M0_158 (p4 : Int32) : Int32 := (if (own_F1 p4 (4 : Int32)) = (0 : Int32) then (own_M0_163 p4) else (1 : Int32))
def own_M0_178 (p4 : Int32) : Int32 := (if (own_F1 p4 (2 : Int32)) = (0 : Int32) then (0 : Int32) else (1 : Int32))
def own_M0_173 (p4 : Int32) : Int32 := (if (own_F1 p4 (1 : Int32)) = (0 : Int32) then (own_M0_178 p4) else (1 : Int32))
def own_M0_206 (p4 : Int32) : Int32 := (if (own_F1 p4 (8 : Int32)) = (0 : Int32) then (0 : Int32) else (1 : Int32))
def own_M0_201 (p4 : Int32) : Int32 := (if (own_F1 p4 (7 : Int32)) = (0 : Int32) then (own_M0_206 p4) else (1 : Int32))
theorem own_pd7 : parseMethodDescriptor "(I)I" = some ⟨[.int], some .int⟩ := by decide +kernel
theorem own_pd8 : parseMethodDescriptor "(I)J" = some ⟨[.int], some .long⟩ := by decide +kernel
def own_Q0 (Z : State) (p0 : Int32) (p1 : Int32) (p2 : Int32) (p3 : Int32) (p4 : Int32) (h0 : Heap) (n0 : Nat) (v : Option Value) (h : Heap) (L : List Loc) : Prop := v = some (.int (1 : Int32)) ∧ Fr n0 L
theorem own_pn_rm0 : plainName "com/example/arcwise/arcwise/adaptation/HistoryRevisedPinLaw" = true := by first | (simp [plainName, overriddenIn]; done) | decide +kernel
theorem own_ef_rm0 (m : MethodId) (p0 : Int32) (p1 : Int32) (p2 : Int32) (p3 : Int32) (p4 : Int32) : entryFrame m #[(.int p0), (.int p1), (.int p2), (.int p3), (.int p4)] maxLocals = mkF m 0 #[.val (.int p0), .val (.int p1), .val (.int p2), .val (.int p3), .val (.int p4), .unset, .unset, .unset, .unset, .unset, .unset, .unset, .unset, .unset, .unset, .unset, .unset, .unset, .unset, .unset, .unset, .unset, .unset, .unset, .unset, .unset, .unset, .unset] [] := by first | (simp [entryFrame, mkF, argsToLocals, Value.category, maxLocals]; done) | rfl
set_option maxRecDepth 65536 in
set_option maxHeartbeats 40000000 in
theorem own_rm0 (l : Launch) (Z : State) (a0 : Array Value) (hw : ∀ d ∈ tables_1, d.before a0 Z = true) (ws : List Jvm.Cond) (p0 : Int32) (p1 : Int32) (p2 : Int32) (p3 : Int32) (p4 : Int32) (h0 : Heap) (n0 : Nat) (Z0 : n0 ≤ h0.size) :
    MetFree l x (head1 (Jvm.Cond.code x code maxLocals ret :: ws) room_1) (fun a U => a = #[(.int p0), (.int p1), (.int p2), (.int p3), (.int p4)] ∧ Z.Warmed39 U.vm ∧ U.heap = h0) (fun _ _ _ _ _ => True) (fun _ U o U' => ∃ v L, o = .returned v ∧ own_Q0 Z p0 p1 p2 p3 p4 h0 n0 v U'.heap L ∧ FrameEnd U o U' L room_1.cells room_1.slots) := by
  refine MetFree.of_bodySF (plainFor_of_name own_pn_rm0) hisR ?_
  intro p e s m args below meth c s₁ Bd hml0 hP hK
  obtain ⟨rfl, hZ, hh⟩ := hP
  have hx := Bd.exec
  have hby := Bd.bytes
  have hml : c.maxLocals = 28 := hml0
  have hown : s.vm.findClass "com/example/arcwise/arcwise/adaptation/HistoryRevisedPinLaw" = some m.cls := findClass_of_methodNamed Bd.named
  have hnm := (name_of_methodNamed Bd.named Bd.method).1
  have X0 : Stand p l e room_1 s m #[(.int p0), (.int p1), (.int p2), (.int p3), (.int p4)] below meth c s₁ [] 0 0 := Stand.of_body Bd
  have e0 : s₁.heap = h0 := by rw [← hh, Bd.state]; rfl
  have N0 := Fr.nil n0
  show own_End p e below s (own_Q0 Z p0 p1 p2 p3 p4 h0 n0) room_1.cells room_1.slots (s₁.setTop (entryFrame m #[(.int p0), (.int p1), (.int p2), (.int p3), (.int p4)] maxLocals))
  rw [own_ef_rm0]
  refine own_iloadN X0 hx (hb hby at_0) rfl (q := 1) rfl ?_
  refine own_iconst X0 hx (hb hby at_1) (z := 1) rfl (q := 2) rfl ?_
  refine own_iand X0 hx (hb hby at_2) (q := 3) rfl ?_
  by_cases hz507 : (p0 &&& (1 : Int32)) = (0 : Int32)
  · rw [hz507]
    refine own_istore X0 hx (hb hby at_3) (l' := #[.val (.int p0), .val (.int p1), .val (.int p2), .val (.int p3), .val (.int p4), .val (.int (0 : Int32)), .unset, .unset, .unset, .unset, .unset, .unset, .unset, .unset, .unset, .unset, .unset, .unset, .unset, .unset, .unset, .unset, .unset, .unset, .unset, .unset, .unset, .unset]) rfl (q := 5) rfl ?_
    refine own_iconst X0 hx (hb hby at_5) (z := 1) rfl (q := 6) rfl ?_
    refine own_iload X0 hx (hb hby at_6) rfl (q := 8) rfl ?_
    refine own_isub X0 hx (hb hby at_8) (q := 9) rfl ?_
    show own_End p e below s _ _ _ (s₁.setTop (mkF m 9 #[.val (.int p0), .val (.int p1), .val (.int p2), .val (.int p3), .val (.int p4), .val (.int (0 : Int32)), .unset, .unset, .unset, .unset, .unset, .unset, .unset, .unset, .unset, .unset, .unset, .unset, .unset, .unset, .unset, .unset, .unset, .unset, .unset, .unset, .unset, .unset] [(.int (1 : Int32))]))
    refine own_istore X0 hx (hb hby at_9) (l' := #[.val (.int p0), .val (.int p1), .val (.int p2), .val (.int p3), .val (.int p4), .val (.int (0 : Int32)), .val (.int (1 : Int32)), .unset, .unset, .unset, .unset, .unset, .unset, .unset, .unset, .unset, .unset, .unset, .unset, .unset, .unset, .unset, .unset, .unset, .unset, .unset, .unset, .unset]) rfl (q := 11) rfl ?_
    refine own_iload X0 hx (hb hby at_11) rfl (q := 13) rfl ?_
    refine own_iconst X0 hx (hb hby at_13) (z := 0) rfl (q := 14) rfl ?_
    obtain ⟨T508, Lc508, L508, X508, N508, hQ508, st508⟩ := own_shutS (val := some (.int (own_F1 p4 (0 : Int32)))) (Q := own_Q1 Z p4 (0 : Int32) h0 n0) (rc := 0) (rs := 0) N0 (fun _ _ _ q => ⟨q.1, q.2.1⟩) (Jvm.LawKit.callS X0 hx (y := (⟨"com/example/arcwise/arcwise/adaptation/HistoryRevisedPinLaw", "bit", "(II)Z"⟩ : MethodName)) hown (mvT hZ (hw _ (List.mem_of_getElem? (i := 0) rfl))) (mvT hZ (hw _ (List.mem_of_getElem? (i := 1) rfl))) (mvT hZ (hw _ (List.mem_of_getElem? (i := 2) rfl))) (mvT hZ (hw _ (List.mem_of_getElem? (i := 3) rfl))) (by decide) (backOf (W := 0) (own_rm1 l Z a0 hw [] p4 (0 : Int32) h0 n0 Z0 ) hZ (hw _ (List.mem_of_getElem? (i := 3) rfl)) (hw _ (List.mem_of_getElem? (i := 2) rfl)) (by decide) (by decide)) (g := (mkF m 14 #[.val (.int p0), .val (.int p1), .val (.int p2), .val (.int p3), .val (.int p4), .val (.int (0 : Int32)), .val (.int (1 : Int32)), .unset, .unset, .unset, .unset, .unset, .unset, .unset, .unset, .unset, .unset, .unset, .unset, .unset, .unset, .unset, .unset, .unset, .unset, .unset, .unset, .unset] [(.int (0 : Int32)), (.int p4)])) rfl (by rw [hml]; rfl) (argsL := [(.int p4), (.int (0 : Int32))]) (rest := []) (lenOf own_pd3 rfl) rfl (by show 2 * 0 + _ ≤ _; exact Nat.le_of_eq rfl) (hb hby at_14) (fun _ _ => ⟨rfl, e0, (by decide : 0 + 0 ≤ _), (by decide : 0 + 0 ≤ _)⟩))
    obtain ⟨-, -, e508⟩ := hQ508
    refine own_back st508 ?_
    show own_End p e below s _ _ _ (T508.setTop (mkF m 17 #[.val (.int p0), .val (.int p1), .val (.int p2), .val (.int p3), .val (.int p4), .val (.int (0 : Int32)), .val (.int (1 : Int32)), .unset, .unset, .unset, .unset, .unset, .unset, .unset, .unset, .unset, .unset, .unset, .unset, .unset, .unset, .unset, .unset, .unset, .unset, .unset, .unset, .unset] [(.int (own_F1 p4 (0 : Int32)))]))
    refine own_istore X508 hx (hb hby at_17) (l' := #[.val (.int p0), .val (.int p1), .val (.int p2), .val (.int p3), .val (.int p4), .val (.int (0 : Int32)), .val (.int (1 : Int32)), .val (.int (own_F1 p4 (0 : Int32))), .unset, .unset, .unset, .unset, .unset, .unset, .unset, .unset, .unset, .unset, .unset, .unset, .unset, .unset, .unset, .unset, .unset, .unset, .unset, .unset]) rfl (q := 19) rfl ?_
    refine own_iload X508 hx (hb hby at_19) rfl (q := 21) rfl ?_
    refine own_iconst X508 hx (hb hby at_21) (z := 1) rfl (q := 22) rfl ?_
    obtain ⟨T509, Lc509, L509, X509, N509, hQ509, st509⟩ := own_shutS (val := some (.int (own_F1 p4 (1 : Int32)))) (Q := own_Q1 Z p4 (1 : Int32) h0 n0) (rc := 0) (rs := 0) N508 (fun _ _ _ q => ⟨q.1, q.2.1⟩) (Jvm.LawKit.callS X508 hx (y := (⟨"com/example/arcwise/arcwise/adaptation/HistoryRevisedPinLaw", "bit", "(II)Z"⟩ : MethodName)) hown (mvT hZ (hw _ (List.mem_of_getElem? (i := 0) rfl))) (mvT hZ (hw _ (List.mem_of_getElem? (i := 1) rfl))) (mvT hZ (hw _ (List.mem_of_getElem? (i := 2) rfl))) (mvT hZ (hw _ (List.mem_of_getElem? (i := 3) rfl))) (by decide) (backOf (W := 0) (own_rm1 l Z a0 hw [] p4 (1 : Int32) h0 n0 Z0 ) hZ (hw _ (List.mem_of_getElem? (i := 3) rfl)) (hw _ (List.mem_of_getElem? (i := 2) rfl)) (by decide) (by decide)) (g := (mkF m 22 #[.val (.int p0), .val (.int p1), .val (.int p2), .val (.int p3), .val (.int p4), .val (.int (0 : Int32)), .val (.int (1 : Int32)), .val (.int (own_F1 p4 (0 : Int32))), .unset, .unset, .unset, .unset, .unset, .unset, .unset, .unset, .unset, .unset, .unset, .unset, .unset, .unset, .unset, .unset, .unset, .unset, .unset, .unset] [(.int (1 : Int32)), (.int p4)])) rfl (by rw [hml]; rfl) (argsL := [(.int p4), (.int (1 : Int32))]) (rest := []) (lenOf own_pd3 rfl) rfl (by show 2 * 0 + _ ≤ _; exact Nat.le_of_eq rfl) (hb hby at_22) (fun _ _ => ⟨rfl, e508, (by decide : 0 + 0 ≤ _), (by decide : 0 + 0 ≤ _)⟩))
    obtain ⟨-, -, e509⟩ := hQ509
    refine own_back st509 ?_
    show own_End p e below s _ _ _ (T509.setTop (mkF m 25 #[.val (.int p0), .val (.int p1), .val (.int p2), .val (.int p3), .val (.int p4), .val (.int (0 : Int32)), .val (.int (1 : Int32)), .val (.int (own_F1 p4 (0 : Int32))), .unset, .unset, .unset, .unset, .unset, .unset, .unset, .unset, .unset, .unset, .unset, .unset, .unset, .unset, .unset, .unset, .unset, .unset, .unset, .unset] [(.int (own_F1 p4 (1 : Int32)))]))
    refine own_istore X509 hx (hb hby at_25) (l' := #[.val (.int p0), .val (.int p1), .val (.int p2), .val (.int p3), .val (.int p4), .val (.int (0 : Int32)), .val (.int (1 : Int32)), .val (.int (own_F1 p4 (0 : Int32))), .val (.int (own_F1 p4 (1 : Int32))), .unset, .unset, .unset, .unset, .unset, .unset, .unset, .unset, .unset, .unset, .unset, .unset, .unset, .unset, .unset, .unset, .unset, .unset, .unset]) rfl (q := 27) rfl ?_
    refine own_iload X509 hx (hb hby at_27) rfl (q := 29) rfl ?_
    refine own_iconst X509 hx (hb hby at_29) (z := 2) rfl (q := 30) rfl ?_
    obtain ⟨T510, Lc510, L510, X510, N510, hQ510, st510⟩ := own_shutS (val := some (.int (own_F1 p4 (2 : Int32)))) (Q := own_Q1 Z p4 (2 : Int32) h0 n0) (rc := 0) (rs := 0) N509 (fun _ _ _ q => ⟨q.1, q.2.1⟩) (Jvm.LawKit.callS X509 hx (y := (⟨"com/example/arcwise/arcwise/adaptation/HistoryRevisedPinLaw", "bit", "(II)Z"⟩ : MethodName)) hown (mvT hZ (hw _ (List.mem_of_getElem? (i := 0) rfl))) (mvT hZ (hw _ (List.mem_of_getElem? (i := 1) rfl))) (mvT hZ (hw _ (List.mem_of_getElem? (i := 2) rfl))) (mvT hZ (hw _ (List.mem_of_getElem? (i := 3) rfl))) (by decide) (backOf (W := 0) (own_rm1 l Z a0 hw [] p4 (2 : Int32) h0 n0 Z0 ) hZ (hw _ (List.mem_of_getElem? (i := 3) rfl)) (hw _ (List.mem_of_getElem? (i := 2) rfl)) (by decide) (by decide)) (g := (mkF m 30 #[.val (.int p0), .val (.int p1), .val (.int p2), .val (.int p3), .val (.int p4), .val (.int (0 : Int32)), .val (.int (1 : Int32)), .val (.int (own_F1 p4 (0 : Int32))), .val (.int (own_F1 p4 (1 : Int32))), .unset, .unset, .unset, .unset, .unset, .unset, .unset, .unset, .unset, .unset, .unset, .unset, .unset, .unset, .unset, .unset, .unset, .unset, .unset] [(.int (2 : Int32)), (.int p4)])) rfl (by rw [hml]; rfl) (argsL := [(.int p4), (.int (2 : Int32))]) (rest := []) (lenOf own_pd3 rfl) rfl (by show 2 * 0 + _ ≤ _; exact Nat.le_of_eq rfl) (hb hby at_30) (fun _ _ => ⟨rfl, e509, (by decide : 0 + 0 ≤ _), (by decide : 0 + 0 ≤ _)⟩))
    obtain ⟨-, -, e510⟩ := hQ510
    refine own_back st510 ?_
    show own_End p e below s _ _ _ (T510.setTop (mkF m 33 #[.val (.int p0), .val (.int p1), .val (.int p2), .val (.int p3), .val (.int p4), .val (.int (0 : Int32)), .val (.int (1 : Int32)), .val (.int (own_F1 p4 (0 : Int32))), .val (.int (own_F1 p4 (1 : Int32))), .unset, .unset, .unset, .unset, .unset, .unset, .unset, .unset, .unset, .unset, .unset, .unset, .unset, .unset, .unset, .unset, .unset, .unset, .unset] [(.int (own_F1 p4 (2 : Int32)))]))
    refine own_istore X510 hx (hb hby at_33) (l' := #[.val (.int p0), .val (.int p1), .val (.int p2), .val (.int p3), .val (.int p4), .val (.int (0 : Int32)), .val (.int (1 : Int32)), .val (.int (own_F1 p4 (0 : Int32))), .val (.int (own_F1 p4 (1 : Int32))), .val (.int (own_F1 p4 (2 : Int32))), .unset, .unset, .unset, .unset, .unset, .unset, .unset, .unset, .unset, .unset, .unset, .unset, .unset, .unset, .unset, .unset, .unset, .unset]) rfl (q := 35) rfl ?_
    refine own_iload X510 hx (hb hby at_35) rfl (q := 37) rfl ?_
    refine own_iconst X510 hx (hb hby at_37) (z := 3) rfl (q := 38) rfl ?_
    obtain ⟨T511, Lc511, L511, X511, N511, hQ511, st511⟩ := own_shutS (val := some (.int (own_F1 p4 (3 : Int32)))) (Q := own_Q1 Z p4 (3 : Int32) h0 n0) (rc := 0) (rs := 0) N510 (fun _ _ _ q => ⟨q.1, q.2.1⟩) (Jvm.LawKit.callS X510 hx (y := (⟨"com/example/arcwise/arcwise/adaptation/HistoryRevisedPinLaw", "bit", "(II)Z"⟩ : MethodName)) hown (mvT hZ (hw _ (List.mem_of_getElem? (i := 0) rfl))) (mvT hZ (hw _ (List.mem_of_getElem? (i := 1) rfl))) (mvT hZ (hw _ (List.mem_of_getElem? (i := 2) rfl))) (mvT hZ (hw _ (List.mem_of_getElem? (i := 3) rfl))) (by decide) (backOf (W := 0) (own_rm1 l Z a0 hw [] p4 (3 : Int32) h0 n0 Z0 ) hZ (hw _ (List.mem_of_getElem? (i := 3) rfl)) (hw _ (List.mem_of_getElem? (i := 2) rfl)) (by decide) (by decide)) (g := (mkF m 38 #[.val (.int p0), .val (.int p1), .val (.int p2), .val (.int p3), .val (.int p4), .val (.int (0 : Int32)), .val (.int (1 : Int32)), .val (.int (own_F1 p4 (0 : Int32))), .val (.int (own_F1 p4 (1 : Int32))), .val (.int (own_F1 p4 (2 : Int32))), .unset, .unset, .unset, .unset, .unset, .unset, .unset, .unset, .unset, .unset, .unset, .unset, .unset, .unset, .unset, .unset, .unset, .unset] [(.int (3 : Int32)), (.int p4)])) rfl (by rw [hml]; rfl) (argsL := [(.int p4), (.int (3 : Int32))]) (rest := []) (lenOf own_pd3 rfl) rfl (by show 2 * 0 + _ ≤ _; exact Nat.le_of_eq rfl) (hb hby at_38) (fun _ _ => ⟨rfl, e510, (by decide : 0 + 0 ≤ _), (by decide : 0 + 0 ≤ _)⟩))
    obtain ⟨-, -, e511⟩ := hQ511
    refine own_back st511 ?_
    show own_End p e below s _ _ _ (T511.setTop (mkF m 41 #[.val (.int p0), .val (.int p1), .val (.int p2), .val (.int p3), .val (.int p4), .val (.int (0 : Int32)), .val (.int (1 : Int32)), .val (.int (own_F1 p4 (0 : Int32))), .val (.int (own_F1 p4 (1 : Int32))), .val (.int (own_F1 p4 (2 : Int32))), .unset, .unset, .unset, .unset, .unset, .unset, .unset, .unset, .unset, .unset, .unset, .unset, .unset, .unset, .unset, .unset, .unset, .unset] [(.int (own_F1 p4 (3 : Int32)))]))
    refine own_istore X511 hx (hb hby at_41) (l' := #[.val (.int p0), .val (.int p1), .val (.int p2), .val (.int p3), .val (.int p4), .val (.int (0 : Int32)), .val (.int (1 : Int32)), .val (.int (own_F1 p4 (0 : Int32))), .val (.int (own_F1 p4 (1 : Int32))), .val (.int (own_F1 p4 (2 : Int32))), .val (.int (own_F1 p4 (3 : Int32))), .unset, .unset, .unset, .unset, .unset, .unset, .unset, .unset, .unset, .unset, .unset, .unset, .unset, .unset, .unset, .unset, .unset]) rfl (q := 43) rfl ?_
    refine own_iload X511 hx (hb hby at_43) rfl (q := 45) rfl ?_
    refine own_iconst X511 hx (hb hby at_45) (z := 4) rfl (q := 46) rfl ?_
    obtain ⟨T512, Lc512, L512, X512, N512, hQ512, st512⟩ := own_shutS (val := some (.int (own_F1 p4 (4 : Int32)))) (Q := own_Q1 Z p4 (4 : Int32) h0 n0) (rc := 0) (rs := 0) N511 (fun _ _ _ q => ⟨q.1, q.2.1⟩) (Jvm.LawKit.callS X511 hx (y := (⟨"com/example/arcwise/arcwise/adaptation/HistoryRevisedPinLaw", "bit", "(II)Z"⟩ : MethodName)) hown (mvT hZ (hw _ (List.mem_of_getElem? (i := 0) rfl))) (mvT hZ (hw _ (List.mem_of_getElem? (i := 1) rfl))) (mvT hZ (hw _ (List.mem_of_getElem? (i := 2) rfl))) (mvT hZ (hw _ (List.mem_of_getElem? (i := 3) rfl))) (by decide) (backOf (W := 0) (own_rm1 l Z a0 hw [] p4 (4 : Int32) h0 n0 Z0 ) hZ (hw _ (List.mem_of_getElem? (i := 3) rfl)) (hw _ (List.mem_of_getElem? (i := 2) rfl)) (by decide) (by decide)) (g := (mkF m 46 #[.val (.int p0), .val (.int p1), .val (.int p2), .val (.int p3), .val (.int p4), .val (.int (0 : Int32)), .val (.int (1 : Int32)), .val (.int (own_F1 p4 (0 : Int32))), .val (.int (own_F1 p4 (1 : Int32))), .val (.int (own_F1 p4 (2 : Int32))), .val (.int (own_F1 p4 (3 : Int32))), .unset, .unset, .unset, .unset, .unset, .unset, .unset, .unset, .unset, .unset, .unset, .unset, .unset, .unset, .unset, .unset, .unset] [(.int (4 : Int32)), (.int p4)])) rfl (by rw [hml]; rfl) (argsL := [(.int p4), (.int (4 : Int32))]) (rest := []) (lenOf own_pd3 rfl) rfl (by show 2 * 0 + _ ≤ _; exact Nat.le_of_eq rfl) (hb hby at_46) (fun _ _ => ⟨rfl, e511, (by decide : 0 + 0 ≤ _), (by decide : 0 + 0 ≤ _)⟩))
    obtain ⟨-, -, e512⟩ := hQ512
    refine own_back st512 ?_
    show own_End p e below s _ _ _ (T512.setTop (mkF m 49 #[.val (.int p0), .val (.int p1), .val (.int p2), .val (.int p3), .val (.int p4), .val (.int (0 : Int32)), .val (.int (1 : Int32)), .val (.int (own_F1 p4 (0 : Int32))), .val (.int (own_F1 p4 (1 : Int32))), .val (.int (own_F1 p4 (2 : Int32))), .val (.int (own_F1 p4 (3 : Int32))), .unset, .unset, .unset, .unset, .unset, .unset, .unset, .unset, .unset, .unset, .unset, .unset, .unset, .unset, .unset, .unset, .unset] [(.int (own_F1 p4 (4 : Int32)))]))
    refine own_istore X512 hx (hb hby at_49) (l' := #[.val (.int p0), .val (.int p1), .val (.int p2), .val (.int p3), .val (.int p4), .val (.int (0 : Int32)), .val (.int (1 : Int32)), .val (.int (own_F1 p4 (0 : Int32))), .val (.int (own_F1 p4 (1 : Int32))), .val (.int (own_F1 p4 (2 : Int32))), .val (.int (own_F1 p4 (3 : Int32))), .val (.int (own_F1 p4 (4 : Int32))), .unset, .unset, .unset, .unset, .unset, .unset, .unset, .unset, .unset, .unset, .unset, .unset, .unset, .unset, .unset, .unset]) rfl (q := 51) rfl ?_
    refine own_iload X512 hx (hb hby at_51) rfl (q := 53) rfl ?_
    refine own_iconst X512 hx (hb hby at_53) (z := 5) rfl (q := 54) rfl ?_
    obtain ⟨T513, Lc513, L513, X513, N513, hQ513, st513⟩ := own_shutS (val := some (.int (own_F1 p4 (5 : Int32)))) (Q := own_Q1 Z p4 (5 : Int32) h0 n0) (rc := 0) (rs := 0) N512 (fun _ _ _ q => ⟨q.1, q.2.1⟩) (Jvm.LawKit.callS X512 hx (y := (⟨"com/example/arcwise/arcwise/adaptation/HistoryRevisedPinLaw", "bit", "(II)Z"⟩ : MethodName)) hown (mvT hZ (hw _ (List.mem_of_getElem? (i := 0) rfl))) (mvT hZ (hw _ (List.mem_of_getElem? (i := 1) rfl))) (mvT hZ (hw _ (List.mem_of_getElem? (i := 2) rfl))) (mvT hZ (hw _ (List.mem_of_getElem? (i := 3) rfl))) (by decide) (backOf (W := 0) (own_rm1 l Z a0 hw [] p4 (5 : Int32) h0 n0 Z0 ) hZ (hw _ (List.mem_of_getElem? (i := 3) rfl)) (hw _ (List.mem_of_getElem? (i := 2) rfl)) (by decide) (by decide)) (g := (mkF m 54 #[.val (.int p0), .val (.int p1), .val (.int p2), .val (.int p3), .val (.int p4), .val (.int (0 : Int32)), .val (.int (1 : Int32)), .val (.int (own_F1 p4 (0 : Int32))), .val (.int (own_F1 p4 (1 : Int32))), .val (.int (own_F1 p4 (2 : Int32))), .val (.int (own_F1 p4 (3 : Int32))), .val (.int (own_F1 p4 (4 : Int32))), .unset, .unset, .unset, .unset, .unset, .unset, .unset, .unset, .unset, .unset, .unset, .unset, .unset, .unset, .unset, .unset] [(.int (5 : Int32)), (.int p4)])) rfl (by rw [hml]; rfl) (argsL := [(.int p4), (.int (5 : Int32))]) (rest := []) (lenOf own_pd3 rfl) rfl (by show 2 * 0 + _ ≤ _; exact Nat.le_of_eq rfl) (hb hby at_54) (fun _ _ => ⟨rfl, e512, (by decide : 0 + 0 ≤ _), (by decide : 0 + 0 ≤ _)⟩))
    obtain ⟨-, -, e513⟩ := hQ513
    refine own_back st513 ?_
    show own_End p e below s _ _ _ (T513.setTop (mkF m 57 #[.val (.int p0), .val (.int p1), .val (.int p2), .val (.int p3), .val (.int p4), .val (.int (0 : Int32)), .val (.int (1 : Int32)), .val (.int (own_F1 p4 (0 : Int32))), .val (.int (own_F1 p4 (1 : Int32))), .val (.int (own_F1 p4 (2 : Int32))), .val (.int (own_F1 p4 (3 : Int32))), .val (.int (own_F1 p4 (4 : Int32))), .unset, .unset, .unset, .unset, .unset, .unset, .unset, .unset, .unset, .unset, .unset, .unset, .unset, .unset, .unset, .unset] [(.int (own_F1 p4 (5 : Int32)))]))
    refine own_istore X513 hx (hb hby at_57) (l' := #[.val (.int p0), .val (.int p1), .val (.int p2), .val (.int p3), .val (.int p4), .val (.int (0 : Int32)), .val (.int (1 : Int32)), .val (.int (own_F1 p4 (0 : Int32))), .val (.int (own_F1 p4 (1 : Int32))), .val (.int (own_F1 p4 (2 : Int32))), .val (.int (own_F1 p4 (3 : Int32))), .val (.int (own_F1 p4 (4 : Int32))), .val (.int (own_F1 p4 (5 : Int32))), .unset, .unset, .unset, .unset, .unset, .unset, .unset, .unset, .unset, .unset, .unset, .unset, .unset, .unset, .unset]) rfl (q := 59) rfl ?_
    refine own_iload X513 hx (hb hby at_59) rfl (q := 61) rfl ?_
    refine own_bipush X513 hx (hb hby at_61) (z := 6) rfl (q := 63) rfl ?_
    obtain ⟨T514, Lc514, L514, X514, N514, hQ514, st514⟩ := own_shutS (val := some (.int (own_F1 p4 (6 : Int32)))) (Q := own_Q1 Z p4 (6 : Int32) h0 n0) (rc := 0) (rs := 0) N513 (fun _ _ _ q => ⟨q.1, q.2.1⟩) (Jvm.LawKit.callS X513 hx (y := (⟨"com/example/arcwise/arcwise/adaptation/HistoryRevisedPinLaw", "bit", "(II)Z"⟩ : MethodName)) hown (mvT hZ (hw _ (List.mem_of_getElem? (i := 0) rfl))) (mvT hZ (hw _ (List.mem_of_getElem? (i := 1) rfl))) (mvT hZ (hw _ (List.mem_of_getElem? (i := 2) rfl))) (mvT hZ (hw _ (List.mem_of_getElem? (i := 3) rfl))) (by decide) (backOf (W := 0) (own_rm1 l Z a0 hw [] p4 (6 : Int32) h0 n0 Z0 ) hZ (hw _ (List.mem_of_getElem? (i := 3) rfl)) (hw _ (List.mem_of_getElem? (i := 2) rfl)) (by decide) (by decide)) (g := (mkF m 63 #[.val (.int p0), .val (.int p1), .val (.int p2), .val (.int p3), .val (.int p4), .val (.int (0 : Int32)), .val (.int (1 : Int32)), .val (.int (own_F1 p4 (0 : Int32))), .val (.int (own_F1 p4 (1 : Int32))), .val (.int (own_F1 p4 (2 : Int32))), .val (.int (own_F1 p4 (3 : Int32))), .val (.int (own_F1 p4 (4 : Int32))), .val (.int (own_F1 p4 (5 : Int32))), .unset, .unset, .unset, .unset, .unset, .unset, .unset, .unset, .unset, .unset, .unset, .unset, .unset, .unset, .unset] [(.int (6 : Int32)), (.int p4)])) rfl (by rw [hml]; rfl) (argsL := [(.int p4), (.int (6 : Int32))]) (rest := []) (lenOf own_pd3 rfl) rfl (by show 2 * 0 + _ ≤ _; exact Nat.le_of_eq rfl) (hb hby at_63) (fun _ _ => ⟨rfl, e513, (by decide : 0 + 0 ≤ _), (by decide : 0 + 0 ≤ _)⟩))
    obtain ⟨-, -, e514⟩ := hQ514
    refine own_back st514 ?_
    show own_End p e below s _ _ _ (T514.setTop (mkF m 66 #[.val (.int p0), .val (.int p1), .val (.int p2), .val (.int p3), .val (.int p4), .val (.int (0 : Int32)), .val (.int (1 : Int32)), .val (.int (own_F1 p4 (0 : Int32))), .val (.int (own_F1 p4 (1 : Int32))), .val (.int (own_F1 p4 (2 : Int32))), .val (.int (own_F1 p4 (3 : Int32))), .val (.int (own_F1 p4 (4 : Int32))), .val (.int (own_F1 p4 (5 : Int32))), .unset, .unset, .unset, .unset, .unset, .unset, .unset, .unset, .unset, .unset, .unset, .unset, .unset, .unset, .unset] [(.int (own_F1 p4 (6 : Int32)))]))
    refine own_istore X514 hx (hb hby at_66) (l' := #[.val (.int p0), .val (.int p1), .val (.int p2), .val (.int p3), .val (.int p4), .val (.int (0 : Int32)), .val (.int (1 : Int32)), .val (.int (own_F1 p4 (0 : Int32))), .val (.int (own_F1 p4 (1 : Int32))), .val (.int (own_F1 p4 (2 : Int32))), .val (.int (own_F1 p4 (3 : Int32))), .val (.int (own_F1 p4 (4 : Int32))), .val (.int (own_F1 p4 (5 : Int32))), .val (.int (own_F1 p4 (6 : Int32))), .unset, .unset, .unset, .unset, .unset, .unset, .unset, .unset, .unset, .unset, .unset, .unset, .unset, .unset]) rfl (q := 68) rfl ?_
    refine own_iload X514 hx (hb hby at_68) rfl (q := 70) rfl ?_
    refine own_bipush X514 hx (hb hby at_70) (z := 7) rfl (q := 72) rfl ?_
    obtain ⟨T515, Lc515, L515, X515, N515, hQ515, st515⟩ := own_shutS (val := some (.int (own_F1 p4 (7 : Int32)))) (Q := own_Q1 Z p4 (7 : Int32) h0 n0) (rc := 0) (rs := 0) N514 (fun _ _ _ q => ⟨q.1, q.2.1⟩) (Jvm.LawKit.callS X514 hx (y := (⟨"com/example/arcwise/arcwise/adaptation/HistoryRevisedPinLaw", "bit", "(II)Z"⟩ : MethodName)) hown (mvT hZ (hw _ (List.mem_of_getElem? (i := 0) rfl))) (mvT hZ (hw _ (List.mem_of_getElem? (i := 1) rfl))) (mvT hZ (hw _ (List.mem_of_getElem? (i := 2) rfl))) (mvT hZ (hw _ (List.mem_of_getElem? (i := 3) rfl))) (by decide) (backOf (W := 0) (own_rm1 l Z a0 hw [] p4 (7 : Int32) h0 n0 Z0 ) hZ (hw _ (List.mem_of_getElem? (i := 3) rfl)) (hw _ (List.mem_of_getElem? (i := 2) rfl)) (by decide) (by decide)) (g := (mkF m 72 #[.val (.int p0), .val (.int p1), .val (.int p2), .val (.int p3), .val (.int p4), .val (.int (0 : Int32)), .val (.int (1 : Int32)), .val (.int (own_F1 p4 (0 : Int32))), .val (.int (own_F1 p4 (1 : Int32))), .val (.int (own_F1 p4 (2 : Int32))), .val (.int (own_F1 p4 (3 : Int32))), .val (.int (own_F1 p4 (4 : Int32))), .val (.int (own_F1 p4 (5 : Int32))), .val (.int (own_F1 p4 (6 : Int32))), .unset, .unset, .unset, .unset, .unset, .unset, .unset, .unset, .unset, .unset, .unset, .unset, .unset, .unset] [(.int (7 : Int32)), (.int p4)])) rfl (by rw [hml]; rfl) (argsL := [(.int p4), (.int (7 : Int32))]) (rest := []) (lenOf own_pd3 rfl) rfl (by show 2 * 0 + _ ≤ _; exact Nat.le_of_eq rfl) (hb hby at_72) (fun _ _ => ⟨rfl, e514, (by decide : 0 + 0 ≤ _), (by decide : 0 + 0 ≤ _)⟩))
    obtain ⟨-, -, e515⟩ := hQ515
    refine own_back st515 ?_
    show own_End p e below s _ _ _ (T515.setTop (mkF m 75 #[.val (.int p0), .val (.int p1), .val (.int p2), .val (.int p3), .val (.int p4), .val (.int (0 : Int32)), .val (.int (1 : Int32)), .val (.int (own_F1 p4 (0 : Int32))), .val (.int (own_F1 p4 (1 : Int32))), .val (.int (own_F1 p4 (2 : Int32))), .val (.int (own_F1 p4 (3 : Int32))), .val (.int (own_F1 p4 (4 : Int32))), .val (.int (own_F1 p4 (5 : Int32))), .val (.int (own_F1 p4 (6 : Int32))), .unset, .unset, .unset, .unset, .unset, .unset, .unset, .unset, .unset, .unset, .unset, .unset, .unset, .unset] [(.int (own_F1 p4 (7 : Int32)))]))
    refine own_istore X515 hx (hb hby at_75) (l' := #[.val (.int p0), .val (.int p1), .val (.int p2), .val (.int p3), .val (.int p4), .val (.int (0 : Int32)), .val (.int (1 : Int32)), .val (.int (own_F1 p4 (0 : Int32))), .val (.int (own_F1 p4 (1 : Int32))), .val (.int (own_F1 p4 (2 : Int32))), .val (.int (own_F1 p4 (3 : Int32))), .val (.int (own_F1 p4 (4 : Int32))), .val (.int (own_F1 p4 (5 : Int32))), .val (.int (own_F1 p4 (6 : Int32))), .val (.int (own_F1 p4 (7 : Int32))), .unset, .unset, .unset, .unset, .unset, .unset, .unset, .unset, .unset, .unset, .unset, .unset, .unset]) rfl (q := 77) rfl ?_
    refine own_iload X515 hx (hb hby at_77) rfl (q := 79) rfl ?_
    refine own_bipush X515 hx (hb hby at_79) (z := 8) rfl (q := 81) rfl ?_
    obtain ⟨T516, Lc516, L516, X516, N516, hQ516, st516⟩ := own_shutS (val := some (.int (own_F1 p4 (8 : Int32)))) (Q := own_Q1 Z p4 (8 : Int32) h0 n0) (rc := 0) (rs := 0) N515 (fun _ _ _ q => ⟨q.1, q.2.1⟩) (Jvm.LawKit.callS X515 hx (y := (⟨"com/example/arcwise/arcwise/adaptation/HistoryRevisedPinLaw", "bit", "(II)Z"⟩ : MethodName)) hown (mvT hZ (hw _ (List.mem_of_getElem? (i := 0) rfl))) (mvT hZ (hw _ (List.mem_of_getElem? (i := 1) rfl))) (mvT hZ (hw _ (List.mem_of_getElem? (i := 2) rfl))) (mvT hZ (hw _ (List.mem_of_getElem? (i := 3) rfl))) (by decide) (backOf (W := 0) (own_rm1 l Z a0 hw [] p4 (8 : Int32) h0 n0 Z0 ) hZ (hw _ (List.mem_of_getElem? (i := 3) rfl)) (hw _ (List.mem_of_getElem? (i := 2) rfl)) (by decide) (by decide)) (g := (mkF m 81 #[.val (.int p0), .val (.int p1), .val (.int p2), .val (.int p3), .val (.int p4), .val (.int (0 : Int32)), .val (.int (1 : Int32)), .val (.int (own_F1 p4 (0 : Int32))), .val (.int (own_F1 p4 (1 : Int32))), .val (.int (own_F1 p4 (2 : Int32))), .val (.int (own_F1 p4 (3 : Int32))), .val (.int (own_F1 p4 (4 : Int32))), .val (.int (own_F1 p4 (5 : Int32))), .val (.int (own_F1 p4 (6 : Int32))), .val (.int (own_F1 p4 (7 : Int32))), .unset, .unset, .unset, .unset, .unset, .unset, .unset, .unset, .unset, .unset, .unset, .unset, .unset] [(.int (8 : Int32)), (.int p4)])) rfl (by rw [hml]; rfl) (argsL := [(.int p4), (.int (8 : Int32))]) (rest := []) (lenOf own_pd3 rfl) rfl (by show 2 * 0 + _ ≤ _; exact Nat.le_of_eq rfl) (hb hby at_81) (fun _ _ => ⟨rfl, e515, (by decide : 0 + 0 ≤ _), (by decide : 0 + 0 ≤ _)⟩))
    obtain ⟨-, -, e516⟩ := hQ516
    refine own_back st516 ?_
    show own_End p e below s _ _ _ (T516.setTop (mkF m 84 #[.val (.int p0), .val (.int p1), .val (.int p2), .val (.int p3), .val (.int p4), .val (.int (0 : Int32)), .val (.int (1 : Int32)), .val (.int (own_F1 p4 (0 : Int32))), .val (.int (own_F1 p4 (1 : Int32))), .val (.int (own_F1 p4 (2 : Int32))), .val (.int (own_F1 p4 (3 : Int32))), .val (.int (own_F1 p4 (4 : Int32))), .val (.int (own_F1 p4 (5 : Int32))), .val (.int (own_F1 p4 (6 : Int32))), .val (.int (own_F1 p4 (7 : Int32))), .unset, .unset, .unset, .unset, .unset, .unset, .unset, .unset, .unset, .unset, .unset, .unset, .unset] [(.int (own_F1 p4 (8 : Int32)))]))
    refine own_istore X516 hx (hb hby at_84) (l' := #[.val (.int p0), .val (.int p1), .val (.int p2), .val (.int p3), .val (.int p4), .val (.int (0 : Int32)), .val (.int (1 : Int32)), .val (.int (own_F1 p4 (0 : Int32))), .val (.int (own_F1 p4 (1 : Int32))), .val (.int (own_F1 p4 (2 : Int32))), .val (.int (own_F1 p4 (3 : Int32))), .val (.int (own_F1 p4 (4 : Int32))), .val (.int (own_F1 p4 (5 : Int32))), .val (.int (own_F1 p4 (6 : Int32))), .val (.int (own_F1 p4 (7 : Int32))), .val (.int (own_F1 p4 (8 : Int32))), .unset, .unset, .unset, .unset, .unset, .unset, .unset, .unset, .unset, .unset, .unset, .unset]) rfl (q := 86) rfl ?_
    obtain ⟨T517, h517, X517, e517, E517, A517, D517, -, st517⟩ := newO X516 hx hZ hown (hw _ (List.mem_of_getElem? (i := 4) rfl)) (hw _ (List.mem_of_getElem? (i := 5) rfl)) (hw _ (List.mem_of_getElem? (i := 6) rfl)) e516 (g := (mkF m 86 #[.val (.int p0), .val (.int p1), .val (.int p2), .val (.int p3), .val (.int p4), .val (.int (0 : Int32)), .val (.int (1 : Int32)), .val (.int (own_F1 p4 (0 : Int32))), .val (.int (own_F1 p4 (1 : Int32))), .val (.int (own_F1 p4 (2 : Int32))), .val (.int (own_F1 p4 (3 : Int32))), .val (.int (own_F1 p4 (4 : Int32))), .val (.int (own_F1 p4 (5 : Int32))), .val (.int (own_F1 p4 (6 : Int32))), .val (.int (own_F1 p4 (7 : Int32))), .val (.int (own_F1 p4 (8 : Int32))), .unset, .unset, .unset, .unset, .unset, .unset, .unset, .unset, .unset, .unset, .unset, .unset] [])) rfl (hb hby at_86) (by decide) (by decide)
    obtain ⟨b517, g517⟩ : ∃ z, z = h0.size := ⟨_, rfl⟩
    have g_b517 : n0 ≤ b517 := Nat.le_trans Z0 (Nat.le_of_eq g517.symm)
    have Z518 := Nat.le_trans Z0 E517.1
    rw [← g517] at A517 D517 st517
    have F_b517_revisions : Fld Z h517 b517 "com/example/arcwise/arcwise/adaptation/History" "revisions" "[J" .null := D517 (Or.inr (hw _ (List.mem_of_getElem? (i := 15) rfl))) (ty := (.array .long)) (by decide)
    have F_b517_lastWipeOut : Fld Z h517 b517 "com/example/arcwise/arcwise/adaptation/History" "lastWipeOut" "[J" .null := D517 (Or.inr (hw _ (List.mem_of_getElem? (i := 17) rfl))) (ty := (.array .long)) (by decide)
    have F_b517_lastRemoval : Fld Z h517 b517 "com/example/arcwise/arcwise/adaptation/History" "lastRemoval" "[J" .null := D517 (Or.inr (hw _ (List.mem_of_getElem? (i := 19) rfl))) (ty := (.array .long)) (by decide)
    have F_b517_lastStrongRemoval : Fld Z h517 b517 "com/example/arcwise/arcwise/adaptation/History" "lastStrongRemoval" "[J" .null := D517 (Or.inr (hw _ (List.mem_of_getElem? (i := 21) rfl))) (ty := (.array .long)) (by decide)
    have F_b517_lastPosition : Fld Z h517 b517 "com/example/arcwise/arcwise/adaptation/History" "lastPosition" "[I" .null := D517 (Or.inr (hw _ (List.mem_of_getElem? (i := 24) rfl))) (ty := (.array .int)) (by decide)
    refine own_back st517 ?_
    show own_End p e below s _ _ _ (T517.setTop (mkF m 89 #[.val (.int p0), .val (.int p1), .val (.int p2), .val (.int p3), .val (.int p4), .val (.int (0 : Int32)), .val (.int (1 : Int32)), .val (.int (own_F1 p4 (0 : Int32))), .val (.int (own_F1 p4 (1 : Int32))), .val (.int (own_F1 p4 (2 : Int32))), .val (.int (own_F1 p4 (3 : Int32))), .val (.int (own_F1 p4 (4 : Int32))), .val (.int (own_F1 p4 (5 : Int32))), .val (.int (own_F1 p4 (6 : Int32))), .val (.int (own_F1 p4 (7 : Int32))), .val (.int (own_F1 p4 (8 : Int32))), .unset, .unset, .unset, .unset, .unset, .unset, .unset, .unset, .unset, .unset, .unset, .unset] [(.ref b517)]))
    refine own_dup X517 hx (hb hby at_89) rfl (q := 90) rfl ?_
    refine own_iconst X517 hx (hb hby at_90) (z := 2) rfl (q := 91) rfl ?_
    obtain ⟨T519, Lc519, L519, X519, N519, hQ519, st519⟩ := own_shutV (val := none) (Q := own_Q2 Z b517 .null .null .null .null .null h517 n0) (rc := 5) (rs := 10) N516 (fun _ _ _ q => ⟨q.1, q.2.1⟩) (X517.specialBack hx (y := (⟨"com/example/arcwise/arcwise/adaptation/History", "<init>", "(I)V"⟩ : MethodName)) rfl hown (mvT hZ (hw _ (List.mem_of_getElem? (i := 7) rfl))) (mvT hZ (hw _ (List.mem_of_getElem? (i := 8) rfl))) (mvT hZ (hw _ (List.mem_of_getElem? (i := 9) rfl))) (by decide) (backOf (W := 1) (own_rm2 l Z a0 hw [] b517 .null .null .null .null .null h517 n0 Z518 A517 F_b517_revisions F_b517_lastWipeOut F_b517_lastRemoval F_b517_lastStrongRemoval F_b517_lastPosition g_b517) hZ (hw _ (List.mem_of_getElem? (i := 9) rfl)) (hw _ (List.mem_of_getElem? (i := 6) rfl)) (by decide) (by decide)) (g := (mkF m 91 #[.val (.int p0), .val (.int p1), .val (.int p2), .val (.int p3), .val (.int p4), .val (.int (0 : Int32)), .val (.int (1 : Int32)), .val (.int (own_F1 p4 (0 : Int32))), .val (.int (own_F1 p4 (1 : Int32))), .val (.int (own_F1 p4 (2 : Int32))), .val (.int (own_F1 p4 (3 : Int32))), .val (.int (own_F1 p4 (4 : Int32))), .val (.int (own_F1 p4 (5 : Int32))), .val (.int (own_F1 p4 (6 : Int32))), .val (.int (own_F1 p4 (7 : Int32))), .val (.int (own_F1 p4 (8 : Int32))), .unset, .unset, .unset, .unset, .unset, .unset, .unset, .unset, .unset, .unset, .unset, .unset] [(.int (2 : Int32)), (.ref b517), (.ref b517)])) rfl (by rw [hml]; rfl) (Steps.refl _) (a := b517) (argsL := [(.int (2 : Int32))]) (rest := [(.ref b517)]) (lenOf own_pd4 rfl) rfl (by show 2 * 0 + _ ≤ _; exact Nat.le_of_eq rfl) (hb hby at_91) (fun _ _ => ⟨rfl, e517, (by decide : 1 + 5 ≤ _), (by decide : 5 + 10 ≤ _)⟩))
    obtain ⟨-, -, K519, b519_0, b519_1, b519_2, b519_3, b519_4, k519_0, k519_1, k519_2, k519_3, k519_4, sb519_0, sb519_1, sb519_2, sb519_3, sb519_4, ne_b519_0_b519_1, ne_b519_0_b519_2, ne_b519_0_b519_3, ne_b519_0_b519_4, ne_b519_1_b519_2, ne_b519_1_b519_3, ne_b519_1_b519_4, ne_b519_2_b519_3, ne_b519_2_b519_4, ne_b519_3_b519_4, Q519_0, Q519_1, Q519_2, Q519_3, Q519_4, Q519_5, Q519_6, Q519_7, Q519_8, Q519_9, Q519_10⟩ := hQ519
    have ne_b517_b519_0 : b517 ≠ b519_0 := Nat.ne_of_lt (Nat.lt_of_lt_of_le A517.lt sb519_0)
    have g_b519_0 : n0 ≤ b519_0 := Nat.le_trans Z518 sb519_0
    have ne_b517_b519_1 : b517 ≠ b519_1 := Nat.ne_of_lt (Nat.lt_of_lt_of_le A517.lt sb519_1)
    have g_b519_1 : n0 ≤ b519_1 := Nat.le_trans Z518 sb519_1
    have ne_b517_b519_2 : b517 ≠ b519_2 := Nat.ne_of_lt (Nat.lt_of_lt_of_le A517.lt sb519_2)
    have g_b519_2 : n0 ≤ b519_2 := Nat.le_trans Z518 sb519_2
    have ne_b517_b519_3 : b517 ≠ b519_3 := Nat.ne_of_lt (Nat.lt_of_lt_of_le A517.lt sb519_3)
    have g_b519_3 : n0 ≤ b519_3 := Nat.le_trans Z518 sb519_3
    have ne_b517_b519_4 : b517 ≠ b519_4 := Nat.ne_of_lt (Nat.lt_of_lt_of_le A517.lt sb519_4)
    have g_b519_4 : n0 ≤ b519_4 := Nat.le_trans Z518 sb519_4
    have A517_520 := A517.keep K519
    have Z521 := Nat.le_trans Z518 K519.1
    refine own_via st519 ?_
    show own_End p e below s _ _ _ (T519.setTop (mkF m 94 #[.val (.int p0), .val (.int p1), .val (.int p2), .val (.int p3), .val (.int p4), .val (.int (0 : Int32)), .val (.int (1 : Int32)), .val (.int (own_F1 p4 (0 : Int32))), .val (.int (own_F1 p4 (1 : Int32))), .val (.int (own_F1 p4 (2 : Int32))), .val (.int (own_F1 p4 (3 : Int32))), .val (.int (own_F1 p4 (4 : Int32))), .val (.int (own_F1 p4 (5 : Int32))), .val (.int (own_F1 p4 (6 : Int32))), .val (.int (own_F1 p4 (7 : Int32))), .val (.int (own_F1 p4 (8 : Int32))), .unset, .unset, .unset, .unset, .unset, .unset, .unset, .unset, .unset, .unset, .unset, .unset] [(.ref b517)]))
    refine own_astore X519 hx (hb hby at_94) rfl (l' := #[.val (.int p0), .val (.int p1), .val (.int p2), .val (.int p3), .val (.int p4), .val (.int (0 : Int32)), .val (.int (1 : Int32)), .val (.int (own_F1 p4 (0 : Int32))), .val (.int (own_F1 p4 (1 : Int32))), .val (.int (own_F1 p4 (2 : Int32))), .val (.int (own_F1 p4 (3 : Int32))), .val (.int (own_F1 p4 (4 : Int32))), .val (.int (own_F1 p4 (5 : Int32))), .val (.int (own_F1 p4 (6 : Int32))), .val (.int (own_F1 p4 (7 : Int32))), .val (.int (own_F1 p4 (8 : Int32))), .val (.ref b517), .unset, .unset, .unset, .unset, .unset, .unset, .unset, .unset, .unset, .unset, .unset]) rfl (q := 96) rfl ?_
    refine own_aload X519 hx (hb hby at_96) rfl rfl (q := 98) rfl ?_
    refine own_iload X519 hx (hb hby at_98) rfl (q := 100) rfl ?_
    refine own_iloadN X519 hx (hb hby at_100) rfl (q := 101) rfl ?_
    refine own_iload X519 hx (hb hby at_101) rfl (q := 103) rfl ?_
    refine own_iload X519 hx (hb hby at_103) rfl (q := 105) rfl ?_
    refine own_iload X519 hx (hb hby at_105) rfl (q := 107) rfl ?_
    obtain ⟨cq522, kq522, q522a, q522b, q522c⟩ := isOf hZ rfl Q519_0
    obtain ⟨T522, Lc522, L522, X522, N522, hQ522, st522⟩ := own_shutV (val := none) (Q := own_Q6_0 Z b517 p1 (own_F1 p4 (0 : Int32)) (own_F1 p4 (1 : Int32)) (own_F1 p4 (2 : Int32)) b519_0 b519_1 b519_2 b519_3 b519_4 k519_0 (0 : Int64) (0 : Int64) k519_1 (-1 : Int64) (-1 : Int64) k519_2 (-1 : Int64) (-1 : Int64) k519_3 (-1 : Int64) (-1 : Int64) k519_4 (-1 : Int32) (-1 : Int32) T519.heap n0) (rc := 0) (rs := 0) N519 (fun _ _ _ q => ⟨q.1, q.2.1⟩) (X519.virtualBack hx (y := (⟨"com/example/arcwise/arcwise/adaptation/History", "revised", "(IIZZZ)V"⟩ : MethodName)) (z := (⟨"com/example/arcwise/arcwise/adaptation/History", "revised", "(IIZZZ)V"⟩ : MethodName)) hown (mvT hZ (hw _ (List.mem_of_getElem? (i := 33) rfl))) (mvT hZ (hw _ (List.mem_of_getElem? (i := 34) rfl))) (notFace_of_selects (args := #[]) (mvT hZ (hw _ (List.mem_of_getElem? (i := 36) rfl)))) (mvT hZ (hw _ (List.mem_of_getElem? (i := 36) rfl))) (mvT hZ (hw _ (List.mem_of_getElem? (i := 35) rfl))) (by decide) (backOf (W := 0) (own_rm6_0 l Z a0 hw [] b517 p1 (own_F1 p4 (0 : Int32)) (own_F1 p4 (1 : Int32)) (own_F1 p4 (2 : Int32)) b519_0 b519_1 b519_2 b519_3 b519_4 k519_0 (0 : Int64) (0 : Int64) k519_1 (-1 : Int64) (-1 : Int64) k519_2 (-1 : Int64) (-1 : Int64) k519_3 (-1 : Int64) (-1 : Int64) k519_4 (-1 : Int32) (-1 : Int32) T519.heap n0 Z521 Q519_0 Q519_1 Q519_2 Q519_3 Q519_4 Q519_5 Q519_6 Q519_7 Q519_8 Q519_9 Q519_10 ne_b517_b519_0 ne_b517_b519_1 ne_b517_b519_2 ne_b517_b519_3 ne_b517_b519_4 ne_b519_0_b519_1 ne_b519_0_b519_2 ne_b519_0_b519_3 ne_b519_0_b519_4 ne_b519_1_b519_2 ne_b519_1_b519_3 ne_b519_1_b519_4 ne_b519_2_b519_3 ne_b519_2_b519_4 ne_b519_3_b519_4 g_b519_0 g_b519_1 g_b519_2 g_b519_3 g_b519_4) hZ (hw _ (List.mem_of_getElem? (i := 37) rfl)) (hw _ (List.mem_of_getElem? (i := 6) rfl)) (by decide) (by decide)) q522a q522c (g := (mkF m 107 #[.val (.int p0), .val (.int p1), .val (.int p2), .val (.int p3), .val (.int p4), .val (.int (0 : Int32)), .val (.int (1 : Int32)), .val (.int (own_F1 p4 (0 : Int32))), .val (.int (own_F1 p4 (1 : Int32))), .val (.int (own_F1 p4 (2 : Int32))), .val (.int (own_F1 p4 (3 : Int32))), .val (.int (own_F1 p4 (4 : Int32))), .val (.int (own_F1 p4 (5 : Int32))), .val (.int (own_F1 p4 (6 : Int32))), .val (.int (own_F1 p4 (7 : Int32))), .val (.int (own_F1 p4 (8 : Int32))), .val (.ref b517), .unset, .unset, .unset, .unset, .unset, .unset, .unset, .unset, .unset, .unset, .unset] [(.int (own_F1 p4 (2 : Int32))), (.int (own_F1 p4 (1 : Int32))), (.int (own_F1 p4 (0 : Int32))), (.int p1), (.int (0 : Int32)), (.ref b517)])) rfl (by rw [hml]; rfl) (Steps.refl _) (argsL := [(.int (0 : Int32)), (.int p1), (.int (own_F1 p4 (0 : Int32))), (.int (own_F1 p4 (1 : Int32))), (.int (own_F1 p4 (2 : Int32)))]) (rest := []) (lenOf own_pd5 rfl) rfl (by show 2 * 0 + _ ≤ _; exact Nat.le_of_eq rfl) (hb hby at_107) (fun _ _ => ⟨rfl, rfl, (by decide : 6 + 0 ≤ _), (by decide : 15 + 0 ≤ _)⟩))
    obtain ⟨-, -, K522, Q522_0, Q522_1, Q522_2, Q522_3, Q522_4⟩ := hQ522
    have Q519_523 := Q519_0.keep K522
    have Q519_524 := Q519_1.keep K522 (ninS ne_b517_b519_0 (ninS ne_b517_b519_1 (ninS ne_b517_b519_2 (ninS ne_b517_b519_3 (ninS ne_b517_b519_4 nin0)))))
    have Q519_525 := Q519_2.keep K522 (ninS ne_b517_b519_0 (ninS ne_b517_b519_1 (ninS ne_b517_b519_2 (ninS ne_b517_b519_3 (ninS ne_b517_b519_4 nin0)))))
    have Q519_526 := Q519_3.keep K522 (ninS ne_b517_b519_0 (ninS ne_b517_b519_1 (ninS ne_b517_b519_2 (ninS ne_b517_b519_3 (ninS ne_b517_b519_4 nin0)))))
    have Q519_527 := Q519_4.keep K522 (ninS ne_b517_b519_0 (ninS ne_b517_b519_1 (ninS ne_b517_b519_2 (ninS ne_b517_b519_3 (ninS ne_b517_b519_4 nin0)))))
    have Q519_528 := Q519_5.keep K522 (ninS ne_b517_b519_0 (ninS ne_b517_b519_1 (ninS ne_b517_b519_2 (ninS ne_b517_b519_3 (ninS ne_b517_b519_4 nin0)))))
    have Z529 := Nat.le_trans Z521 K522.1
    refine own_via st522 ?_
    show own_End p e below s _ _ _ (T522.setTop (mkF m 110 #[.val (.int p0), .val (.int p1), .val (.int p2), .val (.int p3), .val (.int p4), .val (.int (0 : Int32)), .val (.int (1 : Int32)), .val (.int (own_F1 p4 (0 : Int32))), .val (.int (own_F1 p4 (1 : Int32))), .val (.int (own_F1 p4 (2 : Int32))), .val (.int (own_F1 p4 (3 : Int32))), .val (.int (own_F1 p4 (4 : Int32))), .val (.int (own_F1 p4 (5 : Int32))), .val (.int (own_F1 p4 (6 : Int32))), .val (.int (own_F1 p4 (7 : Int32))), .val (.int (own_F1 p4 (8 : Int32))), .val (.ref b517), .unset, .unset, .unset, .unset, .unset, .unset, .unset, .unset, .unset, .unset, .unset] []))
    refine own_aload X522 hx (hb hby at_110) rfl rfl (q := 112) rfl ?_
    refine own_iload X522 hx (hb hby at_112) rfl (q := 114) rfl ?_
    refine own_iloadN X522 hx (hb hby at_114) rfl (q := 115) rfl ?_
    refine own_iload X522 hx (hb hby at_115) rfl (q := 117) rfl ?_
    refine own_iload X522 hx (hb hby at_117) rfl (q := 119) rfl ?_
    refine own_iload X522 hx (hb hby at_119) rfl (q := 121) rfl ?_
    obtain ⟨cq530, kq530, q530a, q530b, q530c⟩ := isOf hZ rfl Q519_523
    obtain ⟨T530, Lc530, L530, X530, N530, hQ530, st530⟩ := own_shutV (val := none) (Q := own_Q6_0 Z b517 p2 (own_F1 p4 (3 : Int32)) (own_F1 p4 (4 : Int32)) (own_F1 p4 (5 : Int32)) b519_0 b519_1 b519_2 b519_3 b519_4 k519_0 ((0 : Int64) + (1 : Int64)) (0 : Int64) k519_1 (own_G6_0_w_o0_lastWipeOut_0 (own_F1 p4 (1 : Int32)) (0 : Int64) (-1 : Int64)) (-1 : Int64) k519_2 (own_G6_0_w_o0_lastRemoval_0 (own_F1 p4 (0 : Int32)) (0 : Int64) (-1 : Int64)) (-1 : Int64) k519_3 (own_G6_0_w_o0_lastStrongRemoval_0 (own_F1 p4 (1 : Int32)) (own_F1 p4 (2 : Int32)) (0 : Int64) (-1 : Int64)) (-1 : Int64) k519_4 p1 (-1 : Int32) T522.heap n0) (rc := 0) (rs := 0) N522 (fun _ _ _ q => ⟨q.1, q.2.1⟩) (X522.virtualBack hx (y := (⟨"com/example/arcwise/arcwise/adaptation/History", "revised", "(IIZZZ)V"⟩ : MethodName)) (z := (⟨"com/example/arcwise/arcwise/adaptation/History", "revised", "(IIZZZ)V"⟩ : MethodName)) hown (mvT hZ (hw _ (List.mem_of_getElem? (i := 33) rfl))) (mvT hZ (hw _ (List.mem_of_getElem? (i := 34) rfl))) (notFace_of_selects (args := #[]) (mvT hZ (hw _ (List.mem_of_getElem? (i := 36) rfl)))) (mvT hZ (hw _ (List.mem_of_getElem? (i := 36) rfl))) (mvT hZ (hw _ (List.mem_of_getElem? (i := 35) rfl))) (by decide) (backOf (W := 0) (own_rm6_0 l Z a0 hw [] b517 p2 (own_F1 p4 (3 : Int32)) (own_F1 p4 (4 : Int32)) (own_F1 p4 (5 : Int32)) b519_0 b519_1 b519_2 b519_3 b519_4 k519_0 ((0 : Int64) + (1 : Int64)) (0 : Int64) k519_1 (own_G6_0_w_o0_lastWipeOut_0 (own_F1 p4 (1 : Int32)) (0 : Int64) (-1 : Int64)) (-1 : Int64) k519_2 (own_G6_0_w_o0_lastRemoval_0 (own_F1 p4 (0 : Int32)) (0 : Int64) (-1 : Int64)) (-1 : Int64) k519_3 (own_G6_0_w_o0_lastStrongRemoval_0 (own_F1 p4 (1 : Int32)) (own_F1 p4 (2 : Int32)) (0 : Int64) (-1 : Int64)) (-1 : Int64) k519_4 p1 (-1 : Int32) T522.heap n0 Z529 Q519_523 Q519_524 Q519_525 Q519_526 Q519_527 Q519_528 Q522_0 Q522_1 Q522_2 Q522_3 Q522_4 ne_b517_b519_0 ne_b517_b519_1 ne_b517_b519_2 ne_b517_b519_3 ne_b517_b519_4 ne_b519_0_b519_1 ne_b519_0_b519_2 ne_b519_0_b519_3 ne_b519_0_b519_4 ne_b519_1_b519_2 ne_b519_1_b519_3 ne_b519_1_b519_4 ne_b519_2_b519_3 ne_b519_2_b519_4 ne_b519_3_b519_4 g_b519_0 g_b519_1 g_b519_2 g_b519_3 g_b519_4) hZ (hw _ (List.mem_of_getElem? (i := 37) rfl)) (hw _ (List.mem_of_getElem? (i := 6) rfl)) (by decide) (by decide)) q530a q530c (g := (mkF m 121 #[.val (.int p0), .val (.int p1), .val (.int p2), .val (.int p3), .val (.int p4), .val (.int (0 : Int32)), .val (.int (1 : Int32)), .val (.int (own_F1 p4 (0 : Int32))), .val (.int (own_F1 p4 (1 : Int32))), .val (.int (own_F1 p4 (2 : Int32))), .val (.int (own_F1 p4 (3 : Int32))), .val (.int (own_F1 p4 (4 : Int32))), .val (.int (own_F1 p4 (5 : Int32))), .val (.int (own_F1 p4 (6 : Int32))), .val (.int (own_F1 p4 (7 : Int32))), .val (.int (own_F1 p4 (8 : Int32))), .val (.ref b517), .unset, .unset, .unset, .unset, .unset, .unset, .unset, .unset, .unset, .unset, .unset] [(.int (own_F1 p4 (5 : Int32))), (.int (own_F1 p4 (4 : Int32))), (.int (own_F1 p4 (3 : Int32))), (.int p2), (.int (0 : Int32)), (.ref b517)])) rfl (by rw [hml]; rfl) (Steps.refl _) (argsL := [(.int (0 : Int32)), (.int p2), (.int (own_F1 p4 (3 : Int32))), (.int (own_F1 p4 (4 : Int32))), (.int (own_F1 p4 (5 : Int32)))]) (rest := []) (lenOf own_pd5 rfl) rfl (by show 2 * 0 + _ ≤ _; exact Nat.le_of_eq rfl) (hb hby at_121) (fun _ _ => ⟨rfl, rfl, (by decide : 6 + 0 ≤ _), (by decide : 15 + 0 ≤ _)⟩))
    obtain ⟨-, -, K530, Q530_0, Q530_1, Q530_2, Q530_3, Q530_4⟩ := hQ530
    have Q519_531 := Q519_523.keep K530
    have Q519_532 := Q519_524.keep K530 (ninS ne_b517_b519_0 (ninS ne_b517_b519_1 (ninS ne_b517_b519_2 (ninS ne_b517_b519_3 (ninS ne_b517_b519_4 nin0)))))
    have Q519_533 := Q519_525.keep K530 (ninS ne_b517_b519_0 (ninS ne_b517_b519_1 (ninS ne_b517_b519_2 (ninS ne_b517_b519_3 (ninS ne_b517_b519_4 nin0)))))
    have Q519_534 := Q519_526.keep K530 (ninS ne_b517_b519_0 (ninS ne_b517_b519_1 (ninS ne_b517_b519_2 (ninS ne_b517_b519_3 (ninS ne_b517_b519_4 nin0)))))
    have Q519_535 := Q519_527.keep K530 (ninS ne_b517_b519_0 (ninS ne_b517_b519_1 (ninS ne_b517_b519_2 (ninS ne_b517_b519_3 (ninS ne_b517_b519_4 nin0)))))
    have Q519_536 := Q519_528.keep K530 (ninS ne_b517_b519_0 (ninS ne_b517_b519_1 (ninS ne_b517_b519_2 (ninS ne_b517_b519_3 (ninS ne_b517_b519_4 nin0)))))
    have Z537 := Nat.le_trans Z529 K530.1
    refine own_via st530 ?_
    show own_End p e below s _ _ _ (T530.setTop (mkF m 124 #[.val (.int p0), .val (.int p1), .val (.int p2), .val (.int p3), .val (.int p4), .val (.int (0 : Int32)), .val (.int (1 : Int32)), .val (.int (own_F1 p4 (0 : Int32))), .val (.int (own_F1 p4 (1 : Int32))), .val (.int (own_F1 p4 (2 : Int32))), .val (.int (own_F1 p4 (3 : Int32))), .val (.int (own_F1 p4 (4 : Int32))), .val (.int (own_F1 p4 (5 : Int32))), .val (.int (own_F1 p4 (6 : Int32))), .val (.int (own_F1 p4 (7 : Int32))), .val (.int (own_F1 p4 (8 : Int32))), .val (.ref b517), .unset, .unset, .unset, .unset, .unset, .unset, .unset, .unset, .unset, .unset, .unset] []))
    refine own_aload X530 hx (hb hby at_124) rfl rfl (q := 126) rfl ?_
    refine own_iload X530 hx (hb hby at_126) rfl (q := 128) rfl ?_
    refine own_iloadN X530 hx (hb hby at_128) rfl (q := 129) rfl ?_
    refine own_iload X530 hx (hb hby at_129) rfl (q := 131) rfl ?_
    refine own_iload X530 hx (hb hby at_131) rfl (q := 133) rfl ?_
    refine own_iload X530 hx (hb hby at_133) rfl (q := 135) rfl ?_
    obtain ⟨cq538, kq538, q538a, q538b, q538c⟩ := isOf hZ rfl Q519_531
    obtain ⟨T538, Lc538, L538, X538, N538, hQ538, st538⟩ := own_shutV (val := none) (Q := own_Q6_1 Z b517 p3 (own_F1 p4 (6 : Int32)) (own_F1 p4 (7 : Int32)) (own_F1 p4 (8 : Int32)) b519_0 b519_1 b519_2 b519_3 b519_4 k519_0 (((0 : Int64) + (1 : Int64)) + (1 : Int64)) (0 : Int64) k519_1 (own_G6_0_w_o0_lastWipeOut_0 (own_F1 p4 (4 : Int32)) ((0 : Int64) + (1 : Int64)) (own_G6_0_w_o0_lastWipeOut_0 (own_F1 p4 (1 : Int32)) (0 : Int64) (-1 : Int64))) (-1 : Int64) k519_2 (own_G6_0_w_o0_lastRemoval_0 (own_F1 p4 (3 : Int32)) ((0 : Int64) + (1 : Int64)) (own_G6_0_w_o0_lastRemoval_0 (own_F1 p4 (0 : Int32)) (0 : Int64) (-1 : Int64))) (-1 : Int64) k519_3 (own_G6_0_w_o0_lastStrongRemoval_0 (own_F1 p4 (4 : Int32)) (own_F1 p4 (5 : Int32)) ((0 : Int64) + (1 : Int64)) (own_G6_0_w_o0_lastStrongRemoval_0 (own_F1 p4 (1 : Int32)) (own_F1 p4 (2 : Int32)) (0 : Int64) (-1 : Int64))) (-1 : Int64) k519_4 p2 (-1 : Int32) T530.heap n0) (rc := 0) (rs := 0) N530 (fun _ _ _ q => ⟨q.1, q.2.1⟩) (X530.virtualBack hx (y := (⟨"com/example/arcwise/arcwise/adaptation/History", "revised", "(IIZZZ)V"⟩ : MethodName)) (z := (⟨"com/example/arcwise/arcwise/adaptation/History", "revised", "(IIZZZ)V"⟩ : MethodName)) hown (mvT hZ (hw _ (List.mem_of_getElem? (i := 33) rfl))) (mvT hZ (hw _ (List.mem_of_getElem? (i := 34) rfl))) (notFace_of_selects (args := #[]) (mvT hZ (hw _ (List.mem_of_getElem? (i := 36) rfl)))) (mvT hZ (hw _ (List.mem_of_getElem? (i := 36) rfl))) (mvT hZ (hw _ (List.mem_of_getElem? (i := 35) rfl))) (by decide) (backOf (W := 0) (own_rm6_1 l Z a0 hw [] b517 p3 (own_F1 p4 (6 : Int32)) (own_F1 p4 (7 : Int32)) (own_F1 p4 (8 : Int32)) b519_0 b519_1 b519_2 b519_3 b519_4 k519_0 (((0 : Int64) + (1 : Int64)) + (1 : Int64)) (0 : Int64) k519_1 (own_G6_0_w_o0_lastWipeOut_0 (own_F1 p4 (4 : Int32)) ((0 : Int64) + (1 : Int64)) (own_G6_0_w_o0_lastWipeOut_0 (own_F1 p4 (1 : Int32)) (0 : Int64) (-1 : Int64))) (-1 : Int64) k519_2 (own_G6_0_w_o0_lastRemoval_0 (own_F1 p4 (3 : Int32)) ((0 : Int64) + (1 : Int64)) (own_G6_0_w_o0_lastRemoval_0 (own_F1 p4 (0 : Int32)) (0 : Int64) (-1 : Int64))) (-1 : Int64) k519_3 (own_G6_0_w_o0_lastStrongRemoval_0 (own_F1 p4 (4 : Int32)) (own_F1 p4 (5 : Int32)) ((0 : Int64) + (1 : Int64)) (own_G6_0_w_o0_lastStrongRemoval_0 (own_F1 p4 (1 : Int32)) (own_F1 p4 (2 : Int32)) (0 : Int64) (-1 : Int64))) (-1 : Int64) k519_4 p2 (-1 : Int32) T530.heap n0 Z537 Q519_531 Q519_532 Q519_533 Q519_534 Q519_535 Q519_536 Q530_0 Q530_1 Q530_2 Q530_3 Q530_4 ne_b517_b519_0 ne_b517_b519_1 ne_b517_b519_2 ne_b517_b519_3 ne_b517_b519_4 ne_b519_0_b519_1 ne_b519_0_b519_2 ne_b519_0_b519_3 ne_b519_0_b519_4 ne_b519_1_b519_2 ne_b519_1_b519_3 ne_b519_1_b519_4 ne_b519_2_b519_3 ne_b519_2_b519_4 ne_b519_3_b519_4 g_b519_0 g_b519_1 g_b519_2 g_b519_3 g_b519_4) hZ (hw _ (List.mem_of_getElem? (i := 37) rfl)) (hw _ (List.mem_of_getElem? (i := 6) rfl)) (by decide) (by decide)) q538a q538c (g := (mkF m 135 #[.val (.int p0), .val (.int p1), .val (.int p2), .val (.int p3), .val (.int p4), .val (.int (0 : Int32)), .val (.int (1 : Int32)), .val (.int (own_F1 p4 (0 : Int32))), .val (.int (own_F1 p4 (1 : Int32))), .val (.int (own_F1 p4 (2 : Int32))), .val (.int (own_F1 p4 (3 : Int32))), .val (.int (own_F1 p4 (4 : Int32))), .val (.int (own_F1 p4 (5 : Int32))), .val (.int (own_F1 p4 (6 : Int32))), .val (.int (own_F1 p4 (7 : Int32))), .val (.int (own_F1 p4 (8 : Int32))), .val (.ref b517), .unset, .unset, .unset, .unset, .unset, .unset, .unset, .unset, .unset, .unset, .unset] [(.int (own_F1 p4 (8 : Int32))), (.int (own_F1 p4 (7 : Int32))), (.int (own_F1 p4 (6 : Int32))), (.int p3), (.int (1 : Int32)), (.ref b517)])) rfl (by rw [hml]; rfl) (Steps.refl _) (argsL := [(.int (1 : Int32)), (.int p3), (.int (own_F1 p4 (6 : Int32))), (.int (own_F1 p4 (7 : Int32))), (.int (own_F1 p4 (8 : Int32)))]) (rest := []) (lenOf own_pd5 rfl) rfl (by show 2 * 0 + _ ≤ _; exact Nat.le_of_eq rfl) (hb hby at_135) (fun _ _ => ⟨rfl, rfl, (by decide : 6 + 0 ≤ _), (by decide : 15 + 0 ≤ _)⟩))
    obtain ⟨-, -, K538, Q538_0, Q538_1, Q538_2, Q538_3, Q538_4⟩ := hQ538
    have Q519_539 := Q519_531.keep K538
    have Q519_540 := Q519_532.keep K538 (ninS ne_b517_b519_0 (ninS ne_b517_b519_1 (ninS ne_b517_b519_2 (ninS ne_b517_b519_3 (ninS ne_b517_b519_4 nin0)))))
    have Q519_541 := Q519_533.keep K538 (ninS ne_b517_b519_0 (ninS ne_b517_b519_1 (ninS ne_b517_b519_2 (ninS ne_b517_b519_3 (ninS ne_b517_b519_4 nin0)))))
    have Q519_542 := Q519_534.keep K538 (ninS ne_b517_b519_0 (ninS ne_b517_b519_1 (ninS ne_b517_b519_2 (ninS ne_b517_b519_3 (ninS ne_b517_b519_4 nin0)))))
    have Q519_543 := Q519_535.keep K538 (ninS ne_b517_b519_0 (ninS ne_b517_b519_1 (ninS ne_b517_b519_2 (ninS ne_b517_b519_3 (ninS ne_b517_b519_4 nin0)))))
    have Q519_544 := Q519_536.keep K538 (ninS ne_b517_b519_0 (ninS ne_b517_b519_1 (ninS ne_b517_b519_2 (ninS ne_b517_b519_3 (ninS ne_b517_b519_4 nin0)))))
    have Z545 := Nat.le_trans Z537 K538.1
    refine own_via st538 ?_
    show own_End p e below s _ _ _ (T538.setTop (mkF m 138 #[.val (.int p0), .val (.int p1), .val (.int p2), .val (.int p3), .val (.int p4), .val (.int (0 : Int32)), .val (.int (1 : Int32)), .val (.int (own_F1 p4 (0 : Int32))), .val (.int (own_F1 p4 (1 : Int32))), .val (.int (own_F1 p4 (2 : Int32))), .val (.int (own_F1 p4 (3 : Int32))), .val (.int (own_F1 p4 (4 : Int32))), .val (.int (own_F1 p4 (5 : Int32))), .val (.int (own_F1 p4 (6 : Int32))), .val (.int (own_F1 p4 (7 : Int32))), .val (.int (own_F1 p4 (8 : Int32))), .val (.ref b517), .unset, .unset, .unset, .unset, .unset, .unset, .unset, .unset, .unset, .unset, .unset] []))
    refine own_iload X538 hx (hb hby at_138) rfl (q := 140) rfl ?_
    refine own_iload X538 hx (hb hby at_140) rfl (q := 142) rfl ?_
    obtain ⟨T546, Lc546, L546, X546, N546, hQ546, st546⟩ := own_shutS (val := some (.long (own_F7 (own_F1 p4 (3 : Int32)) (own_F1 p4 (0 : Int32))))) (Q := own_Q7 Z (own_F1 p4 (3 : Int32)) (own_F1 p4 (0 : Int32)) T538.heap n0) (rc := 0) (rs := 0) N538 (fun _ _ _ q => ⟨q.1, q.2.1⟩) (Jvm.LawKit.callS X538 hx (y := (⟨"com/example/arcwise/arcwise/adaptation/HistoryRevisedPinLaw", "expect", "(ZZ)J"⟩ : MethodName)) hown (mvT hZ (hw _ (List.mem_of_getElem? (i := 38) rfl))) (mvT hZ (hw _ (List.mem_of_getElem? (i := 39) rfl))) (mvT hZ (hw _ (List.mem_of_getElem? (i := 2) rfl))) (mvT hZ (hw _ (List.mem_of_getElem? (i := 40) rfl))) (by decide) (backOf (W := 0) (own_rm7 l Z a0 hw [] (own_F1 p4 (3 : Int32)) (own_F1 p4 (0 : Int32)) T538.heap n0 Z545 ) hZ (hw _ (List.mem_of_getElem? (i := 40) rfl)) (hw _ (List.mem_of_getElem? (i := 2) rfl)) (by decide) (by decide)) (g := (mkF m 142 #[.val (.int p0), .val (.int p1), .val (.int p2), .val (.int p3), .val (.int p4), .val (.int (0 : Int32)), .val (.int (1 : Int32)), .val (.int (own_F1 p4 (0 : Int32))), .val (.int (own_F1 p4 (1 : Int32))), .val (.int (own_F1 p4 (2 : Int32))), .val (.int (own_F1 p4 (3 : Int32))), .val (.int (own_F1 p4 (4 : Int32))), .val (.int (own_F1 p4 (5 : Int32))), .val (.int (own_F1 p4 (6 : Int32))), .val (.int (own_F1 p4 (7 : Int32))), .val (.int (own_F1 p4 (8 : Int32))), .val (.ref b517), .unset, .unset, .unset, .unset, .unset, .unset, .unset, .unset, .unset, .unset, .unset] [(.int (own_F1 p4 (0 : Int32))), (.int (own_F1 p4 (3 : Int32)))])) rfl (by rw [hml]; rfl) (argsL := [(.int (own_F1 p4 (3 : Int32))), (.int (own_F1 p4 (0 : Int32)))]) (rest := []) (lenOf own_pd6 rfl) rfl (by show 2 * 0 + _ ≤ _; exact Nat.le_of_eq rfl) (hb hby at_142) (fun _ _ => ⟨rfl, rfl, (by decide : 6 + 0 ≤ _), (by decide : 15 + 0 ≤ _)⟩))
    obtain ⟨-, -, e546⟩ := hQ546
    refine own_back st546 ?_
    show own_End p e below s _ _ _ (T546.setTop (mkF m 145 #[.val (.int p0), .val (.int p1), .val (.int p2), .val (.int p3), .val (.int p4), .val (.int (0 : Int32)), .val (.int (1 : Int32)), .val (.int (own_F1 p4 (0 : Int32))), .val (.int (own_F1 p4 (1 : Int32))), .val (.int (own_F1 p4 (2 : Int32))), .val (.int (own_F1 p4 (3 : Int32))), .val (.int (own_F1 p4 (4 : Int32))), .val (.int (own_F1 p4 (5 : Int32))), .val (.int (own_F1 p4 (6 : Int32))), .val (.int (own_F1 p4 (7 : Int32))), .val (.int (own_F1 p4 (8 : Int32))), .val (.ref b517), .unset, .unset, .unset, .unset, .unset, .unset, .unset, .unset, .unset, .unset, .unset] [(.long (own_F7 (own_F1 p4 (3 : Int32)) (own_F1 p4 (0 : Int32))))]))
    refine own_lstore X546 hx (hb hby at_145) (l' := #[.val (.int p0), .val (.int p1), .val (.int p2), .val (.int p3), .val (.int p4), .val (.int (0 : Int32)), .val (.int (1 : Int32)), .val (.int (own_F1 p4 (0 : Int32))), .val (.int (own_F1 p4 (1 : Int32))), .val (.int (own_F1 p4 (2 : Int32))), .val (.int (own_F1 p4 (3 : Int32))), .val (.int (own_F1 p4 (4 : Int32))), .val (.int (own_F1 p4 (5 : Int32))), .val (.int (own_F1 p4 (6 : Int32))), .val (.int (own_F1 p4 (7 : Int32))), .val (.int (own_F1 p4 (8 : Int32))), .val (.ref b517), .val (.long (own_F7 (own_F1 p4 (3 : Int32)) (own_F1 p4 (0 : Int32)))), .second, .unset, .unset, .unset, .unset, .unset, .unset, .unset, .unset, .unset]) rfl (q := 147) rfl ?_
    refine own_iload X546 hx (hb hby at_147) rfl (q := 149) rfl ?_
    refine own_iload X546 hx (hb hby at_149) rfl (q := 151) rfl ?_
    obtain ⟨T547, Lc547, L547, X547, N547, hQ547, st547⟩ := own_shutS (val := some (.long (own_F7 (own_F1 p4 (4 : Int32)) (own_F1 p4 (1 : Int32))))) (Q := own_Q7 Z (own_F1 p4 (4 : Int32)) (own_F1 p4 (1 : Int32)) T538.heap n0) (rc := 0) (rs := 0) N546 (fun _ _ _ q => ⟨q.1, q.2.1⟩) (Jvm.LawKit.callS X546 hx (y := (⟨"com/example/arcwise/arcwise/adaptation/HistoryRevisedPinLaw", "expect", "(ZZ)J"⟩ : MethodName)) hown (mvT hZ (hw _ (List.mem_of_getElem? (i := 38) rfl))) (mvT hZ (hw _ (List.mem_of_getElem? (i := 39) rfl))) (mvT hZ (hw _ (List.mem_of_getElem? (i := 2) rfl))) (mvT hZ (hw _ (List.mem_of_getElem? (i := 40) rfl))) (by decide) (backOf (W := 0) (own_rm7 l Z a0 hw [] (own_F1 p4 (4 : Int32)) (own_F1 p4 (1 : Int32)) T538.heap n0 Z545 ) hZ (hw _ (List.mem_of_getElem? (i := 40) rfl)) (hw _ (List.mem_of_getElem? (i := 2) rfl)) (by decide) (by decide)) (g := (mkF m 151 #[.val (.int p0), .val (.int p1), .val (.int p2), .val (.int p3), .val (.int p4), .val (.int (0 : Int32)), .val (.int (1 : Int32)), .val (.int (own_F1 p4 (0 : Int32))), .val (.int (own_F1 p4 (1 : Int32))), .val (.int (own_F1 p4 (2 : Int32))), .val (.int (own_F1 p4 (3 : Int32))), .val (.int (own_F1 p4 (4 : Int32))), .val (.int (own_F1 p4 (5 : Int32))), .val (.int (own_F1 p4 (6 : Int32))), .val (.int (own_F1 p4 (7 : Int32))), .val (.int (own_F1 p4 (8 : Int32))), .val (.ref b517), .val (.long (own_F7 (own_F1 p4 (3 : Int32)) (own_F1 p4 (0 : Int32)))), .second, .unset, .unset, .unset, .unset, .unset, .unset, .unset, .unset, .unset] [(.int (own_F1 p4 (1 : Int32))), (.int (own_F1 p4 (4 : Int32)))])) rfl (by rw [hml]; rfl) (argsL := [(.int (own_F1 p4 (4 : Int32))), (.int (own_F1 p4 (1 : Int32)))]) (rest := []) (lenOf own_pd6 rfl) rfl (by show 2 * 0 + _ ≤ _; exact Nat.le_of_eq rfl) (hb hby at_151) (fun _ _ => ⟨rfl, e546, (by decide : 6 + 0 ≤ _), (by decide : 15 + 0 ≤ _)⟩))
    obtain ⟨-, -, e547⟩ := hQ547
    refine own_back st547 ?_
    show own_End p e below s _ _ _ (T547.setTop (mkF m 154 #[.val (.int p0), .val (.int p1), .val (.int p2), .val (.int p3), .val (.int p4), .val (.int (0 : Int32)), .val (.int (1 : Int32)), .val (.int (own_F1 p4 (0 : Int32))), .val (.int (own_F1 p4 (1 : Int32))), .val (.int (own_F1 p4 (2 : Int32))), .val (.int (own_F1 p4 (3 : Int32))), .val (.int (own_F1 p4 (4 : Int32))), .val (.int (own_F1 p4 (5 : Int32))), .val (.int (own_F1 p4 (6 : Int32))), .val (.int (own_F1 p4 (7 : Int32))), .val (.int (own_F1 p4 (8 : Int32))), .val (.ref b517), .val (.long (own_F7 (own_F1 p4 (3 : Int32)) (own_F1 p4 (0 : Int32)))), .second, .unset, .unset, .unset, .unset, .unset, .unset, .unset, .unset, .unset] [(.long (own_F7 (own_F1 p4 (4 : Int32)) (own_F1 p4 (1 : Int32))))]))
    refine own_lstore X547 hx (hb hby at_154) (l' := #[.val (.int p0), .val (.int p1), .val (.int p2), .val (.int p3), .val (.int p4), .val (.int (0 : Int32)), .val (.int (1 : Int32)), .val (.int (own_F1 p4 (0 : Int32))), .val (.int (own_F1 p4 (1 : Int32))), .val (.int (own_F1 p4 (2 : Int32))), .val (.int (own_F1 p4 (3 : Int32))), .val (.int (own_F1 p4 (4 : Int32))), .val (.int (own_F1 p4 (5 : Int32))), .val (.int (own_F1 p4 (6 : Int32))), .val (.int (own_F1 p4 (7 : Int32))), .val (.int (own_F1 p4 (8 : Int32))), .val (.ref b517), .val (.long (own_F7 (own_F1 p4 (3 : Int32)) (own_F1 p4 (0 : Int32)))), .second, .val (.long (own_F7 (own_F1 p4 (4 : Int32)) (own_F1 p4 (1 : Int32)))), .second, .unset, .unset, .unset, .unset, .unset, .unset, .unset]) rfl (q := 156) rfl ?_
    refine own_iload X547 hx (hb hby at_156) rfl (q := 158) rfl ?_
    suffices J555 : own_End p e below s (own_Q0 Z p0 p1 p2 p3 p4 h0 n0) room_1.cells room_1.slots (T547.setTop (mkF m 171 #[.val (.int p0), .val (.int p1), .val (.int p2), .val (.int p3), .val (.int p4), .val (.int (0 : Int32)), .val (.int (1 : Int32)), .val (.int (own_F1 p4 (0 : Int32))), .val (.int (own_F1 p4 (1 : Int32))), .val (.int (own_F1 p4 (2 : Int32))), .val (.int (own_F1 p4 (3 : Int32))), .val (.int (own_F1 p4 (4 : Int32))), .val (.int (own_F1 p4 (5 : Int32))), .val (.int (own_F1 p4 (6 : Int32))), .val (.int (own_F1 p4 (7 : Int32))), .val (.int (own_F1 p4 (8 : Int32))), .val (.ref b517), .val (.long (own_F7 (own_F1 p4 (3 : Int32)) (own_F1 p4 (0 : Int32)))), .second, .val (.long (own_F7 (own_F1 p4 (4 : Int32)) (own_F1 p4 (1 : Int32)))), .second, .unset, .unset, .unset, .unset, .unset, .unset, .unset] [(.int (own_M0_158 p4))])) by
      by_cases hc158_548 : (own_F1 p4 (4 : Int32)) = (0 : Int32)
      · refine own_ifN X547 hx (hb hby at_158) (teq hc158_548).2 (q := 161) rfl ?_
        refine own_iload X547 hx (hb hby at_161) rfl (q := 163) rfl ?_
        suffices J552 : own_End p e below s (own_Q0 Z p0 p1 p2 p3 p4 h0 n0) room_1.cells room_1.slots (T547.setTop (mkF m 171 #[.val (.int p0), .val (.int p1), .val (.int p2), .val (.int p3), .val (.int p4), .val (.int (0 : Int32)), .val (.int (1 : Int32)), .val (.int (own_F1 p4 (0 : Int32))), .val (.int (own_F1 p4 (1 : Int32))), .val (.int (own_F1 p4 (2 : Int32))), .val (.int (own_F1 p4 (3 : Int32))), .val (.int (own_F1 p4 (4 : Int32))), .val (.int (own_F1 p4 (5 : Int32))), .val (.int (own_F1 p4 (6 : Int32))), .val (.int (own_F1 p4 (7 : Int32))), .val (.int (own_F1 p4 (8 : Int32))), .val (.ref b517), .val (.long (own_F7 (own_F1 p4 (3 : Int32)) (own_F1 p4 (0 : Int32)))), .second, .val (.long (own_F7 (own_F1 p4 (4 : Int32)) (own_F1 p4 (1 : Int32)))), .second, .unset, .unset, .unset, .unset, .unset, .unset, .unset] [(.int (own_M0_163 p4))])) by
          by_cases hc163_549 : (own_F1 p4 (5 : Int32)) = (0 : Int32)
          · refine own_ifY X547 hx (hb hby at_163) (teq hc163_549).1 (q := 170) (by decide) (by decide) ?_
            refine own_iconst X547 hx (hb hby at_170) (z := 0) rfl (q := 171) rfl ?_
            simp only [own_M0_163, if_pos hc163_549] at J552
            exact J552
          · refine own_ifN X547 hx (hb hby at_163) (feq hc163_549).1 (q := 166) rfl ?_
            refine own_iconst X547 hx (hb hby at_166) (z := 1) rfl (q := 167) rfl ?_
            refine own_goto X547 hx (hb hby at_167) (q := 171) (by decide) (by decide) ?_
            simp only [own_M0_163, if_neg hc163_549] at J552
            exact J552
        simp only [own_M0_158, if_pos hc158_548] at J555
        exact J555
      · refine own_ifY X547 hx (hb hby at_158) (feq hc158_548).2 (q := 166) (by decide) (by decide) ?_
        refine own_iconst X547 hx (hb hby at_166) (z := 1) rfl (q := 167) rfl ?_
        refine own_goto X547 hx (hb hby at_167) (q := 171) (by decide) (by decide) ?_
        simp only [own_M0_158, if_neg hc158_548] at J555
        exact J555
    refine own_iload X547 hx (hb hby at_171) rfl (q := 173) rfl ?_
    suffices J563 : own_End p e below s (own_Q0 Z p0 p1 p2 p3 p4 h0 n0) room_1.cells room_1.slots (T547.setTop (mkF m 186 #[.val (.int p0), .val (.int p1), .val (.int p2), .val (.int p3), .val (.int p4), .val (.int (0 : Int32)), .val (.int (1 : Int32)), .val (.int (own_F1 p4 (0 : Int32))), .val (.int (own_F1 p4 (1 : Int32))), .val (.int (own_F1 p4 (2 : Int32))), .val (.int (own_F1 p4 (3 : Int32))), .val (.int (own_F1 p4 (4 : Int32))), .val (.int (own_F1 p4 (5 : Int32))), .val (.int (own_F1 p4 (6 : Int32))), .val (.int (own_F1 p4 (7 : Int32))), .val (.int (own_F1 p4 (8 : Int32))), .val (.ref b517), .val (.long (own_F7 (own_F1 p4 (3 : Int32)) (own_F1 p4 (0 : Int32)))), .second, .val (.long (own_F7 (own_F1 p4 (4 : Int32)) (own_F1 p4 (1 : Int32)))), .second, .unset, .unset, .unset, .unset, .unset, .unset, .unset] [(.int (own_M0_173 p4)), (.int (own_M0_158 p4))])) by
      by_cases hc173_556 : (own_F1 p4 (1 : Int32)) = (0 : Int32)
      · refine own_ifN X547 hx (hb hby at_173) (teq hc173_556).2 (q := 176) rfl ?_
        refine own_iload X547 hx (hb hby at_176) rfl (q := 178) rfl ?_
        suffices J560 : own_End p e below s (own_Q0 Z p0 p1 p2 p3 p4 h0 n0) room_1.cells room_1.slots (T547.setTop (mkF m 186 #[.val (.int p0), .val (.int p1), .val (.int p2), .val (.int p3), .val (.int p4), .val (.int (0 : Int32)), .val (.int (1 : Int32)), .val (.int (own_F1 p4 (0 : Int32))), .val (.int (own_F1 p4 (1 : Int32))), .val (.int (own_F1 p4 (2 : Int32))), .val (.int (own_F1 p4 (3 : Int32))), .val (.int (own_F1 p4 (4 : Int32))), .val (.int (own_F1 p4 (5 : Int32))), .val (.int (own_F1 p4 (6 : Int32))), .val (.int (own_F1 p4 (7 : Int32))), .val (.int (own_F1 p4 (8 : Int32))), .val (.ref b517), .val (.long (own_F7 (own_F1 p4 (3 : Int32)) (own_F1 p4 (0 : Int32)))), .second, .val (.long (own_F7 (own_F1 p4 (4 : Int32)) (own_F1 p4 (1 : Int32)))), .second, .unset, .unset, .unset, .unset, .unset, .unset, .unset] [(.int (own_M0_178 p4)), (.int (own_M0_158 p4))])) by
          by_cases hc178_557 : (own_F1 p4 (2 : Int32)) = (0 : Int32)
          · refine own_ifY X547 hx (hb hby at_178) (teq hc178_557).1 (q := 185) (by decide) (by decide) ?_
            refine own_iconst X547 hx (hb hby at_185) (z := 0) rfl (q := 186) rfl ?_
            simp only [own_M0_178, if_pos hc178_557] at J560
            exact J560
          · refine own_ifN X547 hx (hb hby at_178) (feq hc178_557).1 (q := 181) rfl ?_
            refine own_iconst X547 hx (hb hby at_181) (z := 1) rfl (q := 182) rfl ?_
            refine own_goto X547 hx (hb hby at_182) (q := 186) (by decide) (by decide) ?_
            simp only [own_M0_178, if_neg hc178_557] at J560
            exact J560
        simp only [own_M0_173, if_pos hc173_556] at J563
        exact J563
      · refine own_ifY X547 hx (hb hby at_173) (feq hc173_556).2 (q := 181) (by decide) (by decide) ?_
        refine own_iconst X547 hx (hb hby at_181) (z := 1) rfl (q := 182) rfl ?_
        refine own_goto X547 hx (hb hby at_182) (q := 186) (by decide) (by decide) ?_
        simp only [own_M0_173, if_neg hc173_556] at J563
        exact J563
    obtain ⟨T564, Lc564, L564, X564, N564, hQ564, st564⟩ := own_shutS (val := some (.long (own_F7 (own_M0_158 p4) (own_M0_173 p4)))) (Q := own_Q7 Z (own_M0_158 p4) (own_M0_173 p4) T538.heap n0) (rc := 0) (rs := 0) N547 (fun _ _ _ q => ⟨q.1, q.2.1⟩) (Jvm.LawKit.callS X547 hx (y := (⟨"com/example/arcwise/arcwise/adaptation/HistoryRevisedPinLaw", "expect", "(ZZ)J"⟩ : MethodName)) hown (mvT hZ (hw _ (List.mem_of_getElem? (i := 38) rfl))) (mvT hZ (hw _ (List.mem_of_getElem? (i := 39) rfl))) (mvT hZ (hw _ (List.mem_of_getElem? (i := 2) rfl))) (mvT hZ (hw _ (List.mem_of_getElem? (i := 40) rfl))) (by decide) (backOf (W := 0) (own_rm7 l Z a0 hw [] (own_M0_158 p4) (own_M0_173 p4) T538.heap n0 Z545 ) hZ (hw _ (List.mem_of_getElem? (i := 40) rfl)) (hw _ (List.mem_of_getElem? (i := 2) rfl)) (by decide) (by decide)) (g := (mkF m 186 #[.val (.int p0), .val (.int p1), .val (.int p2), .val (.int p3), .val (.int p4), .val (.int (0 : Int32)), .val (.int (1 : Int32)), .val (.int (own_F1 p4 (0 : Int32))), .val (.int (own_F1 p4 (1 : Int32))), .val (.int (own_F1 p4 (2 : Int32))), .val (.int (own_F1 p4 (3 : Int32))), .val (.int (own_F1 p4 (4 : Int32))), .val (.int (own_F1 p4 (5 : Int32))), .val (.int (own_F1 p4 (6 : Int32))), .val (.int (own_F1 p4 (7 : Int32))), .val (.int (own_F1 p4 (8 : Int32))), .val (.ref b517), .val (.long (own_F7 (own_F1 p4 (3 : Int32)) (own_F1 p4 (0 : Int32)))), .second, .val (.long (own_F7 (own_F1 p4 (4 : Int32)) (own_F1 p4 (1 : Int32)))), .second, .unset, .unset, .unset, .unset, .unset, .unset, .unset] [(.int (own_M0_173 p4)), (.int (own_M0_158 p4))])) rfl (by rw [hml]; rfl) (argsL := [(.int (own_M0_158 p4)), (.int (own_M0_173 p4))]) (rest := []) (lenOf own_pd6 rfl) rfl (by show 2 * 0 + _ ≤ _; exact Nat.le_of_eq rfl) (hb hby at_186) (fun _ _ => ⟨rfl, e547, (by decide : 6 + 0 ≤ _), (by decide : 15 + 0 ≤ _)⟩))
    obtain ⟨-, -, e564⟩ := hQ564
    refine own_back st564 ?_
    show own_End p e below s _ _ _ (T564.setTop (mkF m 189 #[.val (.int p0), .val (.int p1), .val (.int p2), .val (.int p3), .val (.int p4), .val (.int (0 : Int32)), .val (.int (1 : Int32)), .val (.int (own_F1 p4 (0 : Int32))), .val (.int (own_F1 p4 (1 : Int32))), .val (.int (own_F1 p4 (2 : Int32))), .val (.int (own_F1 p4 (3 : Int32))), .val (.int (own_F1 p4 (4 : Int32))), .val (.int (own_F1 p4 (5 : Int32))), .val (.int (own_F1 p4 (6 : Int32))), .val (.int (own_F1 p4 (7 : Int32))), .val (.int (own_F1 p4 (8 : Int32))), .val (.ref b517), .val (.long (own_F7 (own_F1 p4 (3 : Int32)) (own_F1 p4 (0 : Int32)))), .second, .val (.long (own_F7 (own_F1 p4 (4 : Int32)) (own_F1 p4 (1 : Int32)))), .second, .unset, .unset, .unset, .unset, .unset, .unset, .unset] [(.long (own_F7 (own_M0_158 p4) (own_M0_173 p4)))]))
    refine own_lstore X564 hx (hb hby at_189) (l' := #[.val (.int p0), .val (.int p1), .val (.int p2), .val (.int p3), .val (.int p4), .val (.int (0 : Int32)), .val (.int (1 : Int32)), .val (.int (own_F1 p4 (0 : Int32))), .val (.int (own_F1 p4 (1 : Int32))), .val (.int (own_F1 p4 (2 : Int32))), .val (.int (own_F1 p4 (3 : Int32))), .val (.int (own_F1 p4 (4 : Int32))), .val (.int (own_F1 p4 (5 : Int32))), .val (.int (own_F1 p4 (6 : Int32))), .val (.int (own_F1 p4 (7 : Int32))), .val (.int (own_F1 p4 (8 : Int32))), .val (.ref b517), .val (.long (own_F7 (own_F1 p4 (3 : Int32)) (own_F1 p4 (0 : Int32)))), .second, .val (.long (own_F7 (own_F1 p4 (4 : Int32)) (own_F1 p4 (1 : Int32)))), .second, .val (.long (own_F7 (own_M0_158 p4) (own_M0_173 p4))), .second, .unset, .unset, .unset, .unset, .unset]) rfl (q := 191) rfl ?_
    refine own_iload X564 hx (hb hby at_191) rfl (q := 193) rfl ?_
    refine own_iconst X564 hx (hb hby at_193) (z := 0) rfl (q := 194) rfl ?_
    obtain ⟨T565, Lc565, L565, X565, N565, hQ565, st565⟩ := own_shutS (val := some (.long (own_F7 (own_F1 p4 (6 : Int32)) (0 : Int32)))) (Q := own_Q7 Z (own_F1 p4 (6 : Int32)) (0 : Int32) T538.heap n0) (rc := 0) (rs := 0) N564 (fun _ _ _ q => ⟨q.1, q.2.1⟩) (Jvm.LawKit.callS X564 hx (y := (⟨"com/example/arcwise/arcwise/adaptation/HistoryRevisedPinLaw", "expect", "(ZZ)J"⟩ : MethodName)) hown (mvT hZ (hw _ (List.mem_of_getElem? (i := 38) rfl))) (mvT hZ (hw _ (List.mem_of_getElem? (i := 39) rfl))) (mvT hZ (hw _ (List.mem_of_getElem? (i := 2) rfl))) (mvT hZ (hw _ (List.mem_of_getElem? (i := 40) rfl))) (by decide) (backOf (W := 0) (own_rm7 l Z a0 hw [] (own_F1 p4 (6 : Int32)) (0 : Int32) T538.heap n0 Z545 ) hZ (hw _ (List.mem_of_getElem? (i := 40) rfl)) (hw _ (List.mem_of_getElem? (i := 2) rfl)) (by decide) (by decide)) (g := (mkF m 194 #[.val (.int p0), .val (.int p1), .val (.int p2), .val (.int p3), .val (.int p4), .val (.int (0 : Int32)), .val (.int (1 : Int32)), .val (.int (own_F1 p4 (0 : Int32))), .val (.int (own_F1 p4 (1 : Int32))), .val (.int (own_F1 p4 (2 : Int32))), .val (.int (own_F1 p4 (3 : Int32))), .val (.int (own_F1 p4 (4 : Int32))), .val (.int (own_F1 p4 (5 : Int32))), .val (.int (own_F1 p4 (6 : Int32))), .val (.int (own_F1 p4 (7 : Int32))), .val (.int (own_F1 p4 (8 : Int32))), .val (.ref b517), .val (.long (own_F7 (own_F1 p4 (3 : Int32)) (own_F1 p4 (0 : Int32)))), .second, .val (.long (own_F7 (own_F1 p4 (4 : Int32)) (own_F1 p4 (1 : Int32)))), .second, .val (.long (own_F7 (own_M0_158 p4) (own_M0_173 p4))), .second, .unset, .unset, .unset, .unset, .unset] [(.int (0 : Int32)), (.int (own_F1 p4 (6 : Int32)))])) rfl (by rw [hml]; rfl) (argsL := [(.int (own_F1 p4 (6 : Int32))), (.int (0 : Int32))]) (rest := []) (lenOf own_pd6 rfl) rfl (by show 2 * 0 + _ ≤ _; exact Nat.le_of_eq rfl) (hb hby at_194) (fun _ _ => ⟨rfl, e564, (by decide : 6 + 0 ≤ _), (by decide : 15 + 0 ≤ _)⟩))
    obtain ⟨-, -, e565⟩ := hQ565
    refine own_back st565 ?_
    show own_End p e below s _ _ _ (T565.setTop (mkF m 197 #[.val (.int p0), .val (.int p1), .val (.int p2), .val (.int p3), .val (.int p4), .val (.int (0 : Int32)), .val (.int (1 : Int32)), .val (.int (own_F1 p4 (0 : Int32))), .val (.int (own_F1 p4 (1 : Int32))), .val (.int (own_F1 p4 (2 : Int32))), .val (.int (own_F1 p4 (3 : Int32))), .val (.int (own_F1 p4 (4 : Int32))), .val (.int (own_F1 p4 (5 : Int32))), .val (.int (own_F1 p4 (6 : Int32))), .val (.int (own_F1 p4 (7 : Int32))), .val (.int (own_F1 p4 (8 : Int32))), .val (.ref b517), .val (.long (own_F7 (own_F1 p4 (3 : Int32)) (own_F1 p4 (0 : Int32)))), .second, .val (.long (own_F7 (own_F1 p4 (4 : Int32)) (own_F1 p4 (1 : Int32)))), .second, .val (.long (own_F7 (own_M0_158 p4) (own_M0_173 p4))), .second, .unset, .unset, .unset, .unset, .unset] [(.long (own_F7 (own_F1 p4 (6 : Int32)) (0 : Int32)))]))
    refine own_lstore X565 hx (hb hby at_197) (l' := #[.val (.int p0), .val (.int p1), .val (.int p2), .val (.int p3), .val (.int p4), .val (.int (0 : Int32)), .val (.int (1 : Int32)), .val (.int (own_F1 p4 (0 : Int32))), .val (.int (own_F1 p4 (1 : Int32))), .val (.int (own_F1 p4 (2 : Int32))), .val (.int (own_F1 p4 (3 : Int32))), .val (.int (own_F1 p4 (4 : Int32))), .val (.int (own_F1 p4 (5 : Int32))), .val (.int (own_F1 p4 (6 : Int32))), .val (.int (own_F1 p4 (7 : Int32))), .val (.int (own_F1 p4 (8 : Int32))), .val (.ref b517), .val (.long (own_F7 (own_F1 p4 (3 : Int32)) (own_F1 p4 (0 : Int32)))), .second, .val (.long (own_F7 (own_F1 p4 (4 : Int32)) (own_F1 p4 (1 : Int32)))), .second, .val (.long (own_F7 (own_M0_158 p4) (own_M0_173 p4))), .second, .val (.long (own_F7 (own_F1 p4 (6 : Int32)) (0 : Int32))), .second, .unset, .unset, .unset]) rfl (q := 199) rfl ?_
    refine own_iload X565 hx (hb hby at_199) rfl (q := 201) rfl ?_
    suffices J573 : own_End p e below s (own_Q0 Z p0 p1 p2 p3 p4 h0 n0) room_1.cells room_1.slots (T565.setTop (mkF m 214 #[.val (.int p0), .val (.int p1), .val (.int p2), .val (.int p3), .val (.int p4), .val (.int (0 : Int32)), .val (.int (1 : Int32)), .val (.int (own_F1 p4 (0 : Int32))), .val (.int (own_F1 p4 (1 : Int32))), .val (.int (own_F1 p4 (2 : Int32))), .val (.int (own_F1 p4 (3 : Int32))), .val (.int (own_F1 p4 (4 : Int32))), .val (.int (own_F1 p4 (5 : Int32))), .val (.int (own_F1 p4 (6 : Int32))), .val (.int (own_F1 p4 (7 : Int32))), .val (.int (own_F1 p4 (8 : Int32))), .val (.ref b517), .val (.long (own_F7 (own_F1 p4 (3 : Int32)) (own_F1 p4 (0 : Int32)))), .second, .val (.long (own_F7 (own_F1 p4 (4 : Int32)) (own_F1 p4 (1 : Int32)))), .second, .val (.long (own_F7 (own_M0_158 p4) (own_M0_173 p4))), .second, .val (.long (own_F7 (own_F1 p4 (6 : Int32)) (0 : Int32))), .second, .unset, .unset, .unset] [(.int (own_M0_201 p4))])) by
      by_cases hc201_566 : (own_F1 p4 (7 : Int32)) = (0 : Int32)
      · refine own_ifN X565 hx (hb hby at_201) (teq hc201_566).2 (q := 204) rfl ?_
        refine own_iload X565 hx (hb hby at_204) rfl (q := 206) rfl ?_
        suffices J570 : own_End p e below s (own_Q0 Z p0 p1 p2 p3 p4 h0 n0) room_1.cells room_1.slots (T565.setTop (mkF m 214 #[.val (.int p0), .val (.int p1), .val (.int p2), .val (.int p3), .val (.int p4), .val (.int (0 : Int32)), .val (.int (1 : Int32)), .val (.int (own_F1 p4 (0 : Int32))), .val (.int (own_F1 p4 (1 : Int32))), .val (.int (own_F1 p4 (2 : Int32))), .val (.int (own_F1 p4 (3 : Int32))), .val (.int (own_F1 p4 (4 : Int32))), .val (.int (own_F1 p4 (5 : Int32))), .val (.int (own_F1 p4 (6 : Int32))), .val (.int (own_F1 p4 (7 : Int32))), .val (.int (own_F1 p4 (8 : Int32))), .val (.ref b517), .val (.long (own_F7 (own_F1 p4 (3 : Int32)) (own_F1 p4 (0 : Int32)))), .second, .val (.long (own_F7 (own_F1 p4 (4 : Int32)) (own_F1 p4 (1 : Int32)))), .second, .val (.long (own_F7 (own_M0_158 p4) (own_M0_173 p4))), .second, .val (.long (own_F7 (own_F1 p4 (6 : Int32)) (0 : Int32))), .second, .unset, .unset, .unset] [(.int (own_M0_206 p4))])) by
          by_cases hc206_567 : (own_F1 p4 (8 : Int32)) = (0 : Int32)
          · refine own_ifY X565 hx (hb hby at_206) (teq hc206_567).1 (q := 213) (by decide) (by decide) ?_
            refine own_iconst X565 hx (hb hby at_213) (z := 0) rfl (q := 214) rfl ?_
            simp only [own_M0_206, if_pos hc206_567] at J570
            exact J570
          · refine own_ifN X565 hx (hb hby at_206) (feq hc206_567).1 (q := 209) rfl ?_
            refine own_iconst X565 hx (hb hby at_209) (z := 1) rfl (q := 210) rfl ?_
            refine own_goto X565 hx (hb hby at_210) (q := 214) (by decide) (by decide) ?_
            simp only [own_M0_206, if_neg hc206_567] at J570
            exact J570
        simp only [own_M0_201, if_pos hc201_566] at J573
        exact J573
      · refine own_ifY X565 hx (hb hby at_201) (feq hc201_566).2 (q := 209) (by decide) (by decide) ?_
        refine own_iconst X565 hx (hb hby at_209) (z := 1) rfl (q := 210) rfl ?_
        refine own_goto X565 hx (hb hby at_210) (q := 214) (by decide) (by decide) ?_
        simp only [own_M0_201, if_neg hc201_566] at J573
        exact J573
    refine own_iconst X565 hx (hb hby at_214) (z := 0) rfl (q := 215) rfl ?_
    obtain ⟨T574, Lc574, L574, X574, N574, hQ574, st574⟩ := own_shutS (val := some (.long (own_F7 (own_M0_201 p4) (0 : Int32)))) (Q := own_Q7 Z (own_M0_201 p4) (0 : Int32) T538.heap n0) (rc := 0) (rs := 0) N565 (fun _ _ _ q => ⟨q.1, q.2.1⟩) (Jvm.LawKit.callS X565 hx (y := (⟨"com/example/arcwise/arcwise/adaptation/HistoryRevisedPinLaw", "expect", "(ZZ)J"⟩ : MethodName)) hown (mvT hZ (hw _ (List.mem_of_getElem? (i := 38) rfl))) (mvT hZ (hw _ (List.mem_of_getElem? (i := 39) rfl))) (mvT hZ (hw _ (List.mem_of_getElem? (i := 2) rfl))) (mvT hZ (hw _ (List.mem_of_getElem? (i := 40) rfl))) (by decide) (backOf (W := 0) (own_rm7 l Z a0 hw [] (own_M0_201 p4) (0 : Int32) T538.heap n0 Z545 ) hZ (hw _ (List.mem_of_getElem? (i := 40) rfl)) (hw _ (List.mem_of_getElem? (i := 2) rfl)) (by decide) (by decide)) (g := (mkF m 215 #[.val (.int p0), .val (.int p1), .val (.int p2), .val (.int p3), .val (.int p4), .val (.int (0 : Int32)), .val (.int (1 : Int32)), .val (.int (own_F1 p4 (0 : Int32))), .val (.int (own_F1 p4 (1 : Int32))), .val (.int (own_F1 p4 (2 : Int32))), .val (.int (own_F1 p4 (3 : Int32))), .val (.int (own_F1 p4 (4 : Int32))), .val (.int (own_F1 p4 (5 : Int32))), .val (.int (own_F1 p4 (6 : Int32))), .val (.int (own_F1 p4 (7 : Int32))), .val (.int (own_F1 p4 (8 : Int32))), .val (.ref b517), .val (.long (own_F7 (own_F1 p4 (3 : Int32)) (own_F1 p4 (0 : Int32)))), .second, .val (.long (own_F7 (own_F1 p4 (4 : Int32)) (own_F1 p4 (1 : Int32)))), .second, .val (.long (own_F7 (own_M0_158 p4) (own_M0_173 p4))), .second, .val (.long (own_F7 (own_F1 p4 (6 : Int32)) (0 : Int32))), .second, .unset, .unset, .unset] [(.int (0 : Int32)), (.int (own_M0_201 p4))])) rfl (by rw [hml]; rfl) (argsL := [(.int (own_M0_201 p4)), (.int (0 : Int32))]) (rest := []) (lenOf own_pd6 rfl) rfl (by show 2 * 0 + _ ≤ _; exact Nat.le_of_eq rfl) (hb hby at_215) (fun _ _ => ⟨rfl, e565, (by decide : 6 + 0 ≤ _), (by decide : 15 + 0 ≤ _)⟩))
    obtain ⟨-, -, e574⟩ := hQ574
    refine own_back st574 ?_
    show own_End p e below s _ _ _ (T574.setTop (mkF m 218 #[.val (.int p0), .val (.int p1), .val (.int p2), .val (.int p3), .val (.int p4), .val (.int (0 : Int32)), .val (.int (1 : Int32)), .val (.int (own_F1 p4 (0 : Int32))), .val (.int (own_F1 p4 (1 : Int32))), .val (.int (own_F1 p4 (2 : Int32))), .val (.int (own_F1 p4 (3 : Int32))), .val (.int (own_F1 p4 (4 : Int32))), .val (.int (own_F1 p4 (5 : Int32))), .val (.int (own_F1 p4 (6 : Int32))), .val (.int (own_F1 p4 (7 : Int32))), .val (.int (own_F1 p4 (8 : Int32))), .val (.ref b517), .val (.long (own_F7 (own_F1 p4 (3 : Int32)) (own_F1 p4 (0 : Int32)))), .second, .val (.long (own_F7 (own_F1 p4 (4 : Int32)) (own_F1 p4 (1 : Int32)))), .second, .val (.long (own_F7 (own_M0_158 p4) (own_M0_173 p4))), .second, .val (.long (own_F7 (own_F1 p4 (6 : Int32)) (0 : Int32))), .second, .unset, .unset, .unset] [(.long (own_F7 (own_M0_201 p4) (0 : Int32)))]))
    refine own_lstore X574 hx (hb hby at_218) (l' := #[.val (.int p0), .val (.int p1), .val (.int p2), .val (.int p3), .val (.int p4), .val (.int (0 : Int32)), .val (.int (1 : Int32)), .val (.int (own_F1 p4 (0 : Int32))), .val (.int (own_F1 p4 (1 : Int32))), .val (.int (own_F1 p4 (2 : Int32))), .val (.int (own_F1 p4 (3 : Int32))), .val (.int (own_F1 p4 (4 : Int32))), .val (.int (own_F1 p4 (5 : Int32))), .val (.int (own_F1 p4 (6 : Int32))), .val (.int (own_F1 p4 (7 : Int32))), .val (.int (own_F1 p4 (8 : Int32))), .val (.ref b517), .val (.long (own_F7 (own_F1 p4 (3 : Int32)) (own_F1 p4 (0 : Int32)))), .second, .val (.long (own_F7 (own_F1 p4 (4 : Int32)) (own_F1 p4 (1 : Int32)))), .second, .val (.long (own_F7 (own_M0_158 p4) (own_M0_173 p4))), .second, .val (.long (own_F7 (own_F1 p4 (6 : Int32)) (0 : Int32))), .second, .val (.long (own_F7 (own_M0_201 p4) (0 : Int32))), .second, .unset]) rfl (q := 220) rfl ?_
    refine own_aload X574 hx (hb hby at_220) rfl rfl (q := 222) rfl ?_
    refine own_iload X574 hx (hb hby at_222) rfl (q := 224) rfl ?_
    obtain ⟨cq575, kq575, q575a, q575b, q575c⟩ := isOf hZ e574 Q519_539
    obtain ⟨T575, Lc575, L575, X575, N575, hQ575, st575⟩ := own_shutV (val := some (.int p2)) (Q := own_Q8_0 Z b517 b519_4 k519_4 p2 p3 T538.heap n0) (rc := 0) (rs := 0) N574 (fun _ _ _ q => ⟨q.1, q.2.1⟩) (X574.virtualBack hx (y := (⟨"com/example/arcwise/arcwise/adaptation/History", "lastPosition", "(I)I"⟩ : MethodName)) (z := (⟨"com/example/arcwise/arcwise/adaptation/History", "lastPosition", "(I)I"⟩ : MethodName)) hown (mvT hZ (hw _ (List.mem_of_getElem? (i := 42) rfl))) (mvT hZ (hw _ (List.mem_of_getElem? (i := 43) rfl))) (notFace_of_selects (args := #[]) (mvT hZ (hw _ (List.mem_of_getElem? (i := 45) rfl)))) (mvT hZ (hw _ (List.mem_of_getElem? (i := 45) rfl))) (mvT hZ (hw _ (List.mem_of_getElem? (i := 44) rfl))) (by decide) (backOf (W := 0) (own_rm8_0 l Z a0 hw [] b517 b519_4 k519_4 p2 p3 T538.heap n0 Z545 Q519_539 Q519_544 Q538_4) hZ (hw _ (List.mem_of_getElem? (i := 46) rfl)) (hw _ (List.mem_of_getElem? (i := 6) rfl)) (by decide) (by decide)) q575a q575c (g := (mkF m 224 #[.val (.int p0), .val (.int p1), .val (.int p2), .val (.int p3), .val (.int p4), .val (.int (0 : Int32)), .val (.int (1 : Int32)), .val (.int (own_F1 p4 (0 : Int32))), .val (.int (own_F1 p4 (1 : Int32))), .val (.int (own_F1 p4 (2 : Int32))), .val (.int (own_F1 p4 (3 : Int32))), .val (.int (own_F1 p4 (4 : Int32))), .val (.int (own_F1 p4 (5 : Int32))), .val (.int (own_F1 p4 (6 : Int32))), .val (.int (own_F1 p4 (7 : Int32))), .val (.int (own_F1 p4 (8 : Int32))), .val (.ref b517), .val (.long (own_F7 (own_F1 p4 (3 : Int32)) (own_F1 p4 (0 : Int32)))), .second, .val (.long (own_F7 (own_F1 p4 (4 : Int32)) (own_F1 p4 (1 : Int32)))), .second, .val (.long (own_F7 (own_M0_158 p4) (own_M0_173 p4))), .second, .val (.long (own_F7 (own_F1 p4 (6 : Int32)) (0 : Int32))), .second, .val (.long (own_F7 (own_M0_201 p4) (0 : Int32))), .second, .unset] [(.int (0 : Int32)), (.ref b517)])) rfl (by rw [hml]; rfl) (Steps.refl _) (argsL := [(.int (0 : Int32))]) (rest := []) (lenOf own_pd7 rfl) rfl (by show 2 * 0 + _ ≤ _; exact Nat.le_of_eq rfl) (hb hby at_224) (fun _ _ => ⟨rfl, e574, (by decide : 6 + 0 ≤ _), (by decide : 15 + 0 ≤ _)⟩))
    obtain ⟨-, -, e575⟩ := hQ575
    refine own_via st575 ?_
    show own_End p e below s _ _ _ (T575.setTop (mkF m 227 #[.val (.int p0), .val (.int p1), .val (.int p2), .val (.int p3), .val (.int p4), .val (.int (0 : Int32)), .val (.int (1 : Int32)), .val (.int (own_F1 p4 (0 : Int32))), .val (.int (own_F1 p4 (1 : Int32))), .val (.int (own_F1 p4 (2 : Int32))), .val (.int (own_F1 p4 (3 : Int32))), .val (.int (own_F1 p4 (4 : Int32))), .val (.int (own_F1 p4 (5 : Int32))), .val (.int (own_F1 p4 (6 : Int32))), .val (.int (own_F1 p4 (7 : Int32))), .val (.int (own_F1 p4 (8 : Int32))), .val (.ref b517), .val (.long (own_F7 (own_F1 p4 (3 : Int32)) (own_F1 p4 (0 : Int32)))), .second, .val (.long (own_F7 (own_F1 p4 (4 : Int32)) (own_F1 p4 (1 : Int32)))), .second, .val (.long (own_F7 (own_M0_158 p4) (own_M0_173 p4))), .second, .val (.long (own_F7 (own_F1 p4 (6 : Int32)) (0 : Int32))), .second, .val (.long (own_F7 (own_M0_201 p4) (0 : Int32))), .second, .unset] [(.int p2)]))
    refine own_iloadN X575 hx (hb hby at_227) rfl (q := 228) rfl ?_
    refine own_icN X575 hx (hb hby at_228) (teq (rfl : p2 = p2)).2 (q := 231) rfl ?_
    refine own_iconst X575 hx (hb hby at_231) (z := 1) rfl (q := 232) rfl ?_
    refine own_goto X575 hx (hb hby at_232) (q := 236) (by decide) (by decide) ?_
    refine own_istore X575 hx (hb hby at_236) (l' := #[.val (.int p0), .val (.int p1), .val (.int p2), .val (.int p3), .val (.int p4), .val (.int (0 : Int32)), .val (.int (1 : Int32)), .val (.int (own_F1 p4 (0 : Int32))), .val (.int (own_F1 p4 (1 : Int32))), .val (.int (own_F1 p4 (2 : Int32))), .val (.int (own_F1 p4 (3 : Int32))), .val (.int (own_F1 p4 (4 : Int32))), .val (.int (own_F1 p4 (5 : Int32))), .val (.int (own_F1 p4 (6 : Int32))), .val (.int (own_F1 p4 (7 : Int32))), .val (.int (own_F1 p4 (8 : Int32))), .val (.ref b517), .val (.long (own_F7 (own_F1 p4 (3 : Int32)) (own_F1 p4 (0 : Int32)))), .second, .val (.long (own_F7 (own_F1 p4 (4 : Int32)) (own_F1 p4 (1 : Int32)))), .second, .val (.long (own_F7 (own_M0_158 p4) (own_M0_173 p4))), .second, .val (.long (own_F7 (own_F1 p4 (6 : Int32)) (0 : Int32))), .second, .val (.long (own_F7 (own_M0_201 p4) (0 : Int32))), .second, .val (.int (1 : Int32))]) rfl (q := 238) rfl ?_
    refine own_iload X575 hx (hb hby at_238) rfl (q := 240) rfl ?_
    refine own_ifN X575 hx (hb hby at_240) (feq (by decide : ¬ ((1 : Int32) = (0 : Int32)))).1 (q := 243) rfl ?_
    refine own_aload X575 hx (hb hby at_243) rfl rfl (q := 245) rfl ?_
    refine own_iload X575 hx (hb hby at_245) rfl (q := 247) rfl ?_
    obtain ⟨cq576, kq576, q576a, q576b, q576c⟩ := isOf hZ e575 Q519_539
    obtain ⟨T576, Lc576, L576, X576, N576, hQ576, st576⟩ := own_shutV (val := some (.long (own_F10_0 (((0 : Int64) + (1 : Int64)) + (1 : Int64)) (own_G6_0_w_o0_lastRemoval_0 (own_F1 p4 (3 : Int32)) ((0 : Int64) + (1 : Int64)) (own_G6_0_w_o0_lastRemoval_0 (own_F1 p4 (0 : Int32)) (0 : Int64) (-1 : Int64)))))) (Q := own_Q9_0 Z b517 b519_0 b519_2 k519_0 (((0 : Int64) + (1 : Int64)) + (1 : Int64)) ((0 : Int64) + (1 : Int64)) k519_2 (own_G6_0_w_o0_lastRemoval_0 (own_F1 p4 (3 : Int32)) ((0 : Int64) + (1 : Int64)) (own_G6_0_w_o0_lastRemoval_0 (own_F1 p4 (0 : Int32)) (0 : Int64) (-1 : Int64))) (own_G6_1_w_o0_lastRemoval_1 (own_F1 p4 (6 : Int32)) (0 : Int64) (-1 : Int64)) T538.heap n0) (rc := 0) (rs := 0) N575 (fun _ _ _ q => ⟨q.1, q.2.1⟩) (X575.virtualBack hx (y := (⟨"com/example/arcwise/arcwise/adaptation/History", "sinceRemoval", "(I)J"⟩ : MethodName)) (z := (⟨"com/example/arcwise/arcwise/adaptation/History", "sinceRemoval", "(I)J"⟩ : MethodName)) hown (mvT hZ (hw _ (List.mem_of_getElem? (i := 47) rfl))) (mvT hZ (hw _ (List.mem_of_getElem? (i := 48) rfl))) (notFace_of_selects (args := #[]) (mvT hZ (hw _ (List.mem_of_getElem? (i := 50) rfl)))) (mvT hZ (hw _ (List.mem_of_getElem? (i := 50) rfl))) (mvT hZ (hw _ (List.mem_of_getElem? (i := 49) rfl))) (by decide) (backOf (W := 0) (own_rm9_0 l Z a0 hw [] b517 b519_0 b519_2 k519_0 (((0 : Int64) + (1 : Int64)) + (1 : Int64)) ((0 : Int64) + (1 : Int64)) k519_2 (own_G6_0_w_o0_lastRemoval_0 (own_F1 p4 (3 : Int32)) ((0 : Int64) + (1 : Int64)) (own_G6_0_w_o0_lastRemoval_0 (own_F1 p4 (0 : Int32)) (0 : Int64) (-1 : Int64))) (own_G6_1_w_o0_lastRemoval_1 (own_F1 p4 (6 : Int32)) (0 : Int64) (-1 : Int64)) T538.heap n0 Z545 Q519_539 Q519_540 Q519_542 Q538_0 Q538_2) hZ (hw _ (List.mem_of_getElem? (i := 51) rfl)) (hw _ (List.mem_of_getElem? (i := 6) rfl)) (by decide) (by decide)) q576a q576c (g := (mkF m 247 #[.val (.int p0), .val (.int p1), .val (.int p2), .val (.int p3), .val (.int p4), .val (.int (0 : Int32)), .val (.int (1 : Int32)), .val (.int (own_F1 p4 (0 : Int32))), .val (.int (own_F1 p4 (1 : Int32))), .val (.int (own_F1 p4 (2 : Int32))), .val (.int (own_F1 p4 (3 : Int32))), .val (.int (own_F1 p4 (4 : Int32))), .val (.int (own_F1 p4 (5 : Int32))), .val (.int (own_F1 p4 (6 : Int32))), .val (.int (own_F1 p4 (7 : Int32))), .val (.int (own_F1 p4 (8 : Int32))), .val (.ref b517), .val (.long (own_F7 (own_F1 p4 (3 : Int32)) (own_F1 p4 (0 : Int32)))), .second, .val (.long (own_F7 (own_F1 p4 (4 : Int32)) (own_F1 p4 (1 : Int32)))), .second, .val (.long (own_F7 (own_M0_158 p4) (own_M0_173 p4))), .second, .val (.long (own_F7 (own_F1 p4 (6 : Int32)) (0 : Int32))), .second, .val (.long (own_F7 (own_M0_201 p4) (0 : Int32))), .second, .val (.int (1 : Int32))] [(.int (0 : Int32)), (.ref b517)])) rfl (by rw [hml]; rfl) (Steps.refl _) (argsL := [(.int (0 : Int32))]) (rest := []) (lenOf own_pd8 rfl) rfl (by show 2 * 0 + _ ≤ _; exact Nat.le_of_eq rfl) (hb hby at_247) (fun _ _ => ⟨rfl, e575, (by decide : 6 + 0 ≤ _), (by decide : 15 + 0 ≤ _)⟩))
    obtain ⟨-, -, e576⟩ := hQ576
    refine own_via st576 ?_
    show own_End p e below s _ _ _ (T576.setTop (mkF m 250 #[.val (.int p0), .val (.int p1), .val (.int p2), .val (.int p3), .val (.int p4), .val (.int (0 : Int32)), .val (.int (1 : Int32)), .val (.int (own_F1 p4 (0 : Int32))), .val (.int (own_F1 p4 (1 : Int32))), .val (.int (own_F1 p4 (2 : Int32))), .val (.int (own_F1 p4 (3 : Int32))), .val (.int (own_F1 p4 (4 : Int32))), .val (.int (own_F1 p4 (5 : Int32))), .val (.int (own_F1 p4 (6 : Int32))), .val (.int (own_F1 p4 (7 : Int32))), .val (.int (own_F1 p4 (8 : Int32))), .val (.ref b517), .val (.long (own_F7 (own_F1 p4 (3 : Int32)) (own_F1 p4 (0 : Int32)))), .second, .val (.long (own_F7 (own_F1 p4 (4 : Int32)) (own_F1 p4 (1 : Int32)))), .second, .val (.long (own_F7 (own_M0_158 p4) (own_M0_173 p4))), .second, .val (.long (own_F7 (own_F1 p4 (6 : Int32)) (0 : Int32))), .second, .val (.long (own_F7 (own_M0_201 p4) (0 : Int32))), .second, .val (.int (1 : Int32))] [(.long (own_F10_0 (((0 : Int64) + (1 : Int64)) + (1 : Int64)) (own_G6_0_w_o0_lastRemoval_0 (own_F1 p4 (3 : Int32)) ((0 : Int64) + (1 : Int64)) (own_G6_0_w_o0_lastRemoval_0 (own_F1 p4 (0 : Int32)) (0 : Int64) (-1 : Int64)))))]))
    refine own_lload X576 hx (hb hby at_250) rfl (q := 252) rfl ?_
    have hk577 : (own_F10_0 (((0 : Int64) + (1 : Int64)) + (1 : Int64)) (own_G6_0_w_o0_lastRemoval_0 (own_F1 p4 (3 : Int32)) ((0 : Int64) + (1 : Int64)) (own_G6_0_w_o0_lastRemoval_0 (own_F1 p4 (0 : Int32)) (0 : Int64) (-1 : Int64)))) = (own_F7 (own_F1 p4 (3 : Int32)) (own_F1 p4 (0 : Int32))) := by rcases own_bit p4 3 with t3 | t3 <;> rcases own_bit p4 0 with t0 | t0 <;> simp only [t3, t0] <;> decide
    refine own_lcN X576 hx (hb hby at_252) (r := 253) rfl (hb hby at_253) (own_teq hk577).2 (q := 256) rfl ?_
    refine own_iconst X576 hx (hb hby at_256) (z := 1) rfl (q := 257) rfl ?_
    refine own_goto X576 hx (hb hby at_257) (q := 261) (by decide) (by decide) ?_
    refine own_istore X576 hx (hb hby at_261) (l' := #[.val (.int p0), .val (.int p1), .val (.int p2), .val (.int p3), .val (.int p4), .val (.int (0 : Int32)), .val (.int (1 : Int32)), .val (.int (own_F1 p4 (0 : Int32))), .val (.int (own_F1 p4 (1 : Int32))), .val (.int (own_F1 p4 (2 : Int32))), .val (.int (own_F1 p4 (3 : Int32))), .val (.int (own_F1 p4 (4 : Int32))), .val (.int (own_F1 p4 (5 : Int32))), .val (.int (own_F1 p4 (6 : Int32))), .val (.int (own_F1 p4 (7 : Int32))), .val (.int (own_F1 p4 (8 : Int32))), .val (.ref b517), .val (.long (own_F7 (own_F1 p4 (3 : Int32)) (own_F1 p4 (0 : Int32)))), .second, .val (.long (own_F7 (own_F1 p4 (4 : Int32)) (own_F1 p4 (1 : Int32)))), .second, .val (.long (own_F7 (own_M0_158 p4) (own_M0_173 p4))), .second, .val (.long (own_F7 (own_F1 p4 (6 : Int32)) (0 : Int32))), .second, .val (.long (own_F7 (own_M0_201 p4) (0 : Int32))), .second, .val (.int (1 : Int32))]) rfl (q := 263) rfl ?_
    refine own_iload X576 hx (hb hby at_263) rfl (q := 265) rfl ?_
    refine own_ifN X576 hx (hb hby at_265) (feq (by decide : ¬ ((1 : Int32) = (0 : Int32)))).1 (q := 268) rfl ?_
    refine own_aload X576 hx (hb hby at_268) rfl rfl (q := 270) rfl ?_
    refine own_iload X576 hx (hb hby at_270) rfl (q := 272) rfl ?_
    obtain ⟨cq578, kq578, q578a, q578b, q578c⟩ := isOf hZ e576 Q519_539
    obtain ⟨T578, Lc578, L578, X578, N578, hQ578, st578⟩ := own_shutV (val := some (.long (own_F10_0 (((0 : Int64) + (1 : Int64)) + (1 : Int64)) (own_G6_0_w_o0_lastWipeOut_0 (own_F1 p4 (4 : Int32)) ((0 : Int64) + (1 : Int64)) (own_G6_0_w_o0_lastWipeOut_0 (own_F1 p4 (1 : Int32)) (0 : Int64) (-1 : Int64)))))) (Q := own_Q11_0 Z b517 b519_0 b519_1 k519_0 (((0 : Int64) + (1 : Int64)) + (1 : Int64)) ((0 : Int64) + (1 : Int64)) k519_1 (own_G6_0_w_o0_lastWipeOut_0 (own_F1 p4 (4 : Int32)) ((0 : Int64) + (1 : Int64)) (own_G6_0_w_o0_lastWipeOut_0 (own_F1 p4 (1 : Int32)) (0 : Int64) (-1 : Int64))) (own_G6_1_w_o0_lastWipeOut_1 (own_F1 p4 (7 : Int32)) (0 : Int64) (-1 : Int64)) T538.heap n0) (rc := 0) (rs := 0) N576 (fun _ _ _ q => ⟨q.1, q.2.1⟩) (X576.virtualBack hx (y := (⟨"com/example/arcwise/arcwise/adaptation/History", "sinceWipeOut", "(I)J"⟩ : MethodName)) (z := (⟨"com/example/arcwise/arcwise/adaptation/History", "sinceWipeOut", "(I)J"⟩ : MethodName)) hown (mvT hZ (hw _ (List.mem_of_getElem? (i := 57) rfl))) (mvT hZ (hw _ (List.mem_of_getElem? (i := 58) rfl))) (notFace_of_selects (args := #[]) (mvT hZ (hw _ (List.mem_of_getElem? (i := 60) rfl)))) (mvT hZ (hw _ (List.mem_of_getElem? (i := 60) rfl))) (mvT hZ (hw _ (List.mem_of_getElem? (i := 59) rfl))) (by decide) (backOf (W := 0) (own_rm11_0 l Z a0 hw [] b517 b519_0 b519_1 k519_0 (((0 : Int64) + (1 : Int64)) + (1 : Int64)) ((0 : Int64) + (1 : Int64)) k519_1 (own_G6_0_w_o0_lastWipeOut_0 (own_F1 p4 (4 : Int32)) ((0 : Int64) + (1 : Int64)) (own_G6_0_w_o0_lastWipeOut_0 (own_F1 p4 (1 : Int32)) (0 : Int64) (-1 : Int64))) (own_G6_1_w_o0_lastWipeOut_1 (own_F1 p4 (7 : Int32)) (0 : Int64) (-1 : Int64)) T538.heap n0 Z545 Q519_539 Q519_540 Q519_541 Q538_0 Q538_1) hZ (hw _ (List.mem_of_getElem? (i := 61) rfl)) (hw _ (List.mem_of_getElem? (i := 6) rfl)) (by decide) (by decide)) q578a q578c (g := (mkF m 272 #[.val (.int p0), .val (.int p1), .val (.int p2), .val (.int p3), .val (.int p4), .val (.int (0 : Int32)), .val (.int (1 : Int32)), .val (.int (own_F1 p4 (0 : Int32))), .val (.int (own_F1 p4 (1 : Int32))), .val (.int (own_F1 p4 (2 : Int32))), .val (.int (own_F1 p4 (3 : Int32))), .val (.int (own_F1 p4 (4 : Int32))), .val (.int (own_F1 p4 (5 : Int32))), .val (.int (own_F1 p4 (6 : Int32))), .val (.int (own_F1 p4 (7 : Int32))), .val (.int (own_F1 p4 (8 : Int32))), .val (.ref b517), .val (.long (own_F7 (own_F1 p4 (3 : Int32)) (own_F1 p4 (0 : Int32)))), .second, .val (.long (own_F7 (own_F1 p4 (4 : Int32)) (own_F1 p4 (1 : Int32)))), .second, .val (.long (own_F7 (own_M0_158 p4) (own_M0_173 p4))), .second, .val (.long (own_F7 (own_F1 p4 (6 : Int32)) (0 : Int32))), .second, .val (.long (own_F7 (own_M0_201 p4) (0 : Int32))), .second, .val (.int (1 : Int32))] [(.int (0 : Int32)), (.ref b517)])) rfl (by rw [hml]; rfl) (Steps.refl _) (argsL := [(.int (0 : Int32))]) (rest := []) (lenOf own_pd8 rfl) rfl (by show 2 * 0 + _ ≤ _; exact Nat.le_of_eq rfl) (hb hby at_272) (fun _ _ => ⟨rfl, e576, (by decide : 6 + 0 ≤ _), (by decide : 15 + 0 ≤ _)⟩))
    obtain ⟨-, -, e578⟩ := hQ578
    refine own_via st578 ?_
    show own_End p e below s _ _ _ (T578.setTop (mkF m 275 #[.val (.int p0), .val (.int p1), .val (.int p2), .val (.int p3), .val (.int p4), .val (.int (0 : Int32)), .val (.int (1 : Int32)), .val (.int (own_F1 p4 (0 : Int32))), .val (.int (own_F1 p4 (1 : Int32))), .val (.int (own_F1 p4 (2 : Int32))), .val (.int (own_F1 p4 (3 : Int32))), .val (.int (own_F1 p4 (4 : Int32))), .val (.int (own_F1 p4 (5 : Int32))), .val (.int (own_F1 p4 (6 : Int32))), .val (.int (own_F1 p4 (7 : Int32))), .val (.int (own_F1 p4 (8 : Int32))), .val (.ref b517), .val (.long (own_F7 (own_F1 p4 (3 : Int32)) (own_F1 p4 (0 : Int32)))), .second, .val (.long (own_F7 (own_F1 p4 (4 : Int32)) (own_F1 p4 (1 : Int32)))), .second, .val (.long (own_F7 (own_M0_158 p4) (own_M0_173 p4))), .second, .val (.long (own_F7 (own_F1 p4 (6 : Int32)) (0 : Int32))), .second, .val (.long (own_F7 (own_M0_201 p4) (0 : Int32))), .second, .val (.int (1 : Int32))] [(.long (own_F10_0 (((0 : Int64) + (1 : Int64)) + (1 : Int64)) (own_G6_0_w_o0_lastWipeOut_0 (own_F1 p4 (4 : Int32)) ((0 : Int64) + (1 : Int64)) (own_G6_0_w_o0_lastWipeOut_0 (own_F1 p4 (1 : Int32)) (0 : Int64) (-1 : Int64)))))]))
    refine own_lload X578 hx (hb hby at_275) rfl (q := 277) rfl ?_
    have hk579 : (own_F10_0 (((0 : Int64) + (1 : Int64)) + (1 : Int64)) (own_G6_0_w_o0_lastWipeOut_0 (own_F1 p4 (4 : Int32)) ((0 : Int64) + (1 : Int64)) (own_G6_0_w_o0_lastWipeOut_0 (own_F1 p4 (1 : Int32)) (0 : Int64) (-1 : Int64)))) = (own_F7 (own_F1 p4 (4 : Int32)) (own_F1 p4 (1 : Int32))) := by rcases own_bit p4 4 with t4 | t4 <;> rcases own_bit p4 1 with t1 | t1 <;> simp only [t4, t1] <;> decide
    refine own_lcN X578 hx (hb hby at_277) (r := 278) rfl (hb hby at_278) (own_teq hk579).2 (q := 281) rfl ?_
    refine own_iconst X578 hx (hb hby at_281) (z := 1) rfl (q := 282) rfl ?_
    refine own_goto X578 hx (hb hby at_282) (q := 286) (by decide) (by decide) ?_
    refine own_istore X578 hx (hb hby at_286) (l' := #[.val (.int p0), .val (.int p1), .val (.int p2), .val (.int p3), .val (.int p4), .val (.int (0 : Int32)), .val (.int (1 : Int32)), .val (.int (own_F1 p4 (0 : Int32))), .val (.int (own_F1 p4 (1 : Int32))), .val (.int (own_F1 p4 (2 : Int32))), .val (.int (own_F1 p4 (3 : Int32))), .val (.int (own_F1 p4 (4 : Int32))), .val (.int (own_F1 p4 (5 : Int32))), .val (.int (own_F1 p4 (6 : Int32))), .val (.int (own_F1 p4 (7 : Int32))), .val (.int (own_F1 p4 (8 : Int32))), .val (.ref b517), .val (.long (own_F7 (own_F1 p4 (3 : Int32)) (own_F1 p4 (0 : Int32)))), .second, .val (.long (own_F7 (own_F1 p4 (4 : Int32)) (own_F1 p4 (1 : Int32)))), .second, .val (.long (own_F7 (own_M0_158 p4) (own_M0_173 p4))), .second, .val (.long (own_F7 (own_F1 p4 (6 : Int32)) (0 : Int32))), .second, .val (.long (own_F7 (own_M0_201 p4) (0 : Int32))), .second, .val (.int (1 : Int32))]) rfl (q := 288) rfl ?_
    refine own_iload X578 hx (hb hby at_288) rfl (q := 290) rfl ?_
    refine own_ifN X578 hx (hb hby at_290) (feq (by decide : ¬ ((1 : Int32) = (0 : Int32)))).1 (q := 293) rfl ?_
    refine own_aload X578 hx (hb hby at_293) rfl rfl (q := 295) rfl ?_
    refine own_iload X578 hx (hb hby at_295) rfl (q := 297) rfl ?_
    obtain ⟨cq580, kq580, q580a, q580b, q580c⟩ := isOf hZ e578 Q519_539
    obtain ⟨T580, Lc580, L580, X580, N580, hQ580, st580⟩ := own_shutV (val := some (.long (own_F10_0 (((0 : Int64) + (1 : Int64)) + (1 : Int64)) (own_G6_0_w_o0_lastStrongRemoval_0 (own_F1 p4 (4 : Int32)) (own_F1 p4 (5 : Int32)) ((0 : Int64) + (1 : Int64)) (own_G6_0_w_o0_lastStrongRemoval_0 (own_F1 p4 (1 : Int32)) (own_F1 p4 (2 : Int32)) (0 : Int64) (-1 : Int64)))))) (Q := own_Q12_0 Z b517 b519_0 b519_3 k519_0 (((0 : Int64) + (1 : Int64)) + (1 : Int64)) ((0 : Int64) + (1 : Int64)) k519_3 (own_G6_0_w_o0_lastStrongRemoval_0 (own_F1 p4 (4 : Int32)) (own_F1 p4 (5 : Int32)) ((0 : Int64) + (1 : Int64)) (own_G6_0_w_o0_lastStrongRemoval_0 (own_F1 p4 (1 : Int32)) (own_F1 p4 (2 : Int32)) (0 : Int64) (-1 : Int64))) (own_G6_1_w_o0_lastStrongRemoval_1 (own_F1 p4 (7 : Int32)) (own_F1 p4 (8 : Int32)) (0 : Int64) (-1 : Int64)) T538.heap n0) (rc := 0) (rs := 0) N578 (fun _ _ _ q => ⟨q.1, q.2.1⟩) (X578.virtualBack hx (y := (⟨"com/example/arcwise/arcwise/adaptation/History", "sinceStrongRemoval", "(I)J"⟩ : MethodName)) (z := (⟨"com/example/arcwise/arcwise/adaptation/History", "sinceStrongRemoval", "(I)J"⟩ : MethodName)) hown (mvT hZ (hw _ (List.mem_of_getElem? (i := 62) rfl))) (mvT hZ (hw _ (List.mem_of_getElem? (i := 63) rfl))) (notFace_of_selects (args := #[]) (mvT hZ (hw _ (List.mem_of_getElem? (i := 65) rfl)))) (mvT hZ (hw _ (List.mem_of_getElem? (i := 65) rfl))) (mvT hZ (hw _ (List.mem_of_getElem? (i := 64) rfl))) (by decide) (backOf (W := 0) (own_rm12_0 l Z a0 hw [] b517 b519_0 b519_3 k519_0 (((0 : Int64) + (1 : Int64)) + (1 : Int64)) ((0 : Int64) + (1 : Int64)) k519_3 (own_G6_0_w_o0_lastStrongRemoval_0 (own_F1 p4 (4 : Int32)) (own_F1 p4 (5 : Int32)) ((0 : Int64) + (1 : Int64)) (own_G6_0_w_o0_lastStrongRemoval_0 (own_F1 p4 (1 : Int32)) (own_F1 p4 (2 : Int32)) (0 : Int64) (-1 : Int64))) (own_G6_1_w_o0_lastStrongRemoval_1 (own_F1 p4 (7 : Int32)) (own_F1 p4 (8 : Int32)) (0 : Int64) (-1 : Int64)) T538.heap n0 Z545 Q519_539 Q519_540 Q519_543 Q538_0 Q538_3) hZ (hw _ (List.mem_of_getElem? (i := 66) rfl)) (hw _ (List.mem_of_getElem? (i := 6) rfl)) (by decide) (by decide)) q580a q580c (g := (mkF m 297 #[.val (.int p0), .val (.int p1), .val (.int p2), .val (.int p3), .val (.int p4), .val (.int (0 : Int32)), .val (.int (1 : Int32)), .val (.int (own_F1 p4 (0 : Int32))), .val (.int (own_F1 p4 (1 : Int32))), .val (.int (own_F1 p4 (2 : Int32))), .val (.int (own_F1 p4 (3 : Int32))), .val (.int (own_F1 p4 (4 : Int32))), .val (.int (own_F1 p4 (5 : Int32))), .val (.int (own_F1 p4 (6 : Int32))), .val (.int (own_F1 p4 (7 : Int32))), .val (.int (own_F1 p4 (8 : Int32))), .val (.ref b517), .val (.long (own_F7 (own_F1 p4 (3 : Int32)) (own_F1 p4 (0 : Int32)))), .second, .val (.long (own_F7 (own_F1 p4 (4 : Int32)) (own_F1 p4 (1 : Int32)))), .second, .val (.long (own_F7 (own_M0_158 p4) (own_M0_173 p4))), .second, .val (.long (own_F7 (own_F1 p4 (6 : Int32)) (0 : Int32))), .second, .val (.long (own_F7 (own_M0_201 p4) (0 : Int32))), .second, .val (.int (1 : Int32))] [(.int (0 : Int32)), (.ref b517)])) rfl (by rw [hml]; rfl) (Steps.refl _) (argsL := [(.int (0 : Int32))]) (rest := []) (lenOf own_pd8 rfl) rfl (by show 2 * 0 + _ ≤ _; exact Nat.le_of_eq rfl) (hb hby at_297) (fun _ _ => ⟨rfl, e578, (by decide : 6 + 0 ≤ _), (by decide : 15 + 0 ≤ _)⟩))
    obtain ⟨-, -, e580⟩ := hQ580
    refine own_via st580 ?_
    show own_End p e below s _ _ _ (T580.setTop (mkF m 300 #[.val (.int p0), .val (.int p1), .val (.int p2), .val (.int p3), .val (.int p4), .val (.int (0 : Int32)), .val (.int (1 : Int32)), .val (.int (own_F1 p4 (0 : Int32))), .val (.int (own_F1 p4 (1 : Int32))), .val (.int (own_F1 p4 (2 : Int32))), .val (.int (own_F1 p4 (3 : Int32))), .val (.int (own_F1 p4 (4 : Int32))), .val (.int (own_F1 p4 (5 : Int32))), .val (.int (own_F1 p4 (6 : Int32))), .val (.int (own_F1 p4 (7 : Int32))), .val (.int (own_F1 p4 (8 : Int32))), .val (.ref b517), .val (.long (own_F7 (own_F1 p4 (3 : Int32)) (own_F1 p4 (0 : Int32)))), .second, .val (.long (own_F7 (own_F1 p4 (4 : Int32)) (own_F1 p4 (1 : Int32)))), .second, .val (.long (own_F7 (own_M0_158 p4) (own_M0_173 p4))), .second, .val (.long (own_F7 (own_F1 p4 (6 : Int32)) (0 : Int32))), .second, .val (.long (own_F7 (own_M0_201 p4) (0 : Int32))), .second, .val (.int (1 : Int32))] [(.long (own_F10_0 (((0 : Int64) + (1 : Int64)) + (1 : Int64)) (own_G6_0_w_o0_lastStrongRemoval_0 (own_F1 p4 (4 : Int32)) (own_F1 p4 (5 : Int32)) ((0 : Int64) + (1 : Int64)) (own_G6_0_w_o0_lastStrongRemoval_0 (own_F1 p4 (1 : Int32)) (own_F1 p4 (2 : Int32)) (0 : Int64) (-1 : Int64)))))]))
    refine own_lload X580 hx (hb hby at_300) rfl (q := 302) rfl ?_
    have hk581 : (own_F10_0 (((0 : Int64) + (1 : Int64)) + (1 : Int64)) (own_G6_0_w_o0_lastStrongRemoval_0 (own_F1 p4 (4 : Int32)) (own_F1 p4 (5 : Int32)) ((0 : Int64) + (1 : Int64)) (own_G6_0_w_o0_lastStrongRemoval_0 (own_F1 p4 (1 : Int32)) (own_F1 p4 (2 : Int32)) (0 : Int64) (-1 : Int64)))) = (own_F7 (own_M0_158 p4) (own_M0_173 p4)) := by rw [own_M0_158, own_M0_163, own_M0_173, own_M0_178]; rcases own_bit p4 4 with t4 | t4 <;> rcases own_bit p4 5 with t5 | t5 <;> rcases own_bit p4 1 with t1 | t1 <;> rcases own_bit p4 2 with t2 | t2 <;> simp only [t4, t5, t1, t2] <;> decide
    refine own_lcN X580 hx (hb hby at_302) (r := 303) rfl (hb hby at_303) (own_teq hk581).2 (q := 306) rfl ?_
    refine own_iconst X580 hx (hb hby at_306) (z := 1) rfl (q := 307) rfl ?_
    refine own_goto X580 hx (hb hby at_307) (q := 311) (by decide) (by decide) ?_
    refine own_istore X580 hx (hb hby at_311) (l' := #[.val (.int p0), .val (.int p1), .val (.int p2), .val (.int p3), .val (.int p4), .val (.int (0 : Int32)), .val (.int (1 : Int32)), .val (.int (own_F1 p4 (0 : Int32))), .val (.int (own_F1 p4 (1 : Int32))), .val (.int (own_F1 p4 (2 : Int32))), .val (.int (own_F1 p4 (3 : Int32))), .val (.int (own_F1 p4 (4 : Int32))), .val (.int (own_F1 p4 (5 : Int32))), .val (.int (own_F1 p4 (6 : Int32))), .val (.int (own_F1 p4 (7 : Int32))), .val (.int (own_F1 p4 (8 : Int32))), .val (.ref b517), .val (.long (own_F7 (own_F1 p4 (3 : Int32)) (own_F1 p4 (0 : Int32)))), .second, .val (.long (own_F7 (own_F1 p4 (4 : Int32)) (own_F1 p4 (1 : Int32)))), .second, .val (.long (own_F7 (own_M0_158 p4) (own_M0_173 p4))), .second, .val (.long (own_F7 (own_F1 p4 (6 : Int32)) (0 : Int32))), .second, .val (.long (own_F7 (own_M0_201 p4) (0 : Int32))), .second, .val (.int (1 : Int32))]) rfl (q := 313) rfl ?_
    refine own_iload X580 hx (hb hby at_313) rfl (q := 315) rfl ?_
    refine own_ifN X580 hx (hb hby at_315) (feq (by decide : ¬ ((1 : Int32) = (0 : Int32)))).1 (q := 318) rfl ?_
    refine own_aload X580 hx (hb hby at_318) rfl rfl (q := 320) rfl ?_
    refine own_iload X580 hx (hb hby at_320) rfl (q := 322) rfl ?_
    obtain ⟨cq582, kq582, q582a, q582b, q582c⟩ := isOf hZ e580 Q519_539
    obtain ⟨T582, Lc582, L582, X582, N582, hQ582, st582⟩ := own_shutV (val := some (.int p3)) (Q := own_Q8_1 Z b517 b519_4 k519_4 p2 p3 T538.heap n0) (rc := 0) (rs := 0) N580 (fun _ _ _ q => ⟨q.1, q.2.1⟩) (X580.virtualBack hx (y := (⟨"com/example/arcwise/arcwise/adaptation/History", "lastPosition", "(I)I"⟩ : MethodName)) (z := (⟨"com/example/arcwise/arcwise/adaptation/History", "lastPosition", "(I)I"⟩ : MethodName)) hown (mvT hZ (hw _ (List.mem_of_getElem? (i := 42) rfl))) (mvT hZ (hw _ (List.mem_of_getElem? (i := 43) rfl))) (notFace_of_selects (args := #[]) (mvT hZ (hw _ (List.mem_of_getElem? (i := 45) rfl)))) (mvT hZ (hw _ (List.mem_of_getElem? (i := 45) rfl))) (mvT hZ (hw _ (List.mem_of_getElem? (i := 44) rfl))) (by decide) (backOf (W := 0) (own_rm8_1 l Z a0 hw [] b517 b519_4 k519_4 p2 p3 T538.heap n0 Z545 Q519_539 Q519_544 Q538_4) hZ (hw _ (List.mem_of_getElem? (i := 46) rfl)) (hw _ (List.mem_of_getElem? (i := 6) rfl)) (by decide) (by decide)) q582a q582c (g := (mkF m 322 #[.val (.int p0), .val (.int p1), .val (.int p2), .val (.int p3), .val (.int p4), .val (.int (0 : Int32)), .val (.int (1 : Int32)), .val (.int (own_F1 p4 (0 : Int32))), .val (.int (own_F1 p4 (1 : Int32))), .val (.int (own_F1 p4 (2 : Int32))), .val (.int (own_F1 p4 (3 : Int32))), .val (.int (own_F1 p4 (4 : Int32))), .val (.int (own_F1 p4 (5 : Int32))), .val (.int (own_F1 p4 (6 : Int32))), .val (.int (own_F1 p4 (7 : Int32))), .val (.int (own_F1 p4 (8 : Int32))), .val (.ref b517), .val (.long (own_F7 (own_F1 p4 (3 : Int32)) (own_F1 p4 (0 : Int32)))), .second, .val (.long (own_F7 (own_F1 p4 (4 : Int32)) (own_F1 p4 (1 : Int32)))), .second, .val (.long (own_F7 (own_M0_158 p4) (own_M0_173 p4))), .second, .val (.long (own_F7 (own_F1 p4 (6 : Int32)) (0 : Int32))), .second, .val (.long (own_F7 (own_M0_201 p4) (0 : Int32))), .second, .val (.int (1 : Int32))] [(.int (1 : Int32)), (.ref b517)])) rfl (by rw [hml]; rfl) (Steps.refl _) (argsL := [(.int (1 : Int32))]) (rest := []) (lenOf own_pd7 rfl) rfl (by show 2 * 0 + _ ≤ _; exact Nat.le_of_eq rfl) (hb hby at_322) (fun _ _ => ⟨rfl, e580, (by decide : 6 + 0 ≤ _), (by decide : 15 + 0 ≤ _)⟩))
    obtain ⟨-, -, e582⟩ := hQ582
    refine own_via st582 ?_
    show own_End p e below s _ _ _ (T582.setTop (mkF m 325 #[.val (.int p0), .val (.int p1), .val (.int p2), .val (.int p3), .val (.int p4), .val (.int (0 : Int32)), .val (.int (1 : Int32)), .val (.int (own_F1 p4 (0 : Int32))), .val (.int (own_F1 p4 (1 : Int32))), .val (.int (own_F1 p4 (2 : Int32))), .val (.int (own_F1 p4 (3 : Int32))), .val (.int (own_F1 p4 (4 : Int32))), .val (.int (own_F1 p4 (5 : Int32))), .val (.int (own_F1 p4 (6 : Int32))), .val (.int (own_F1 p4 (7 : Int32))), .val (.int (own_F1 p4 (8 : Int32))), .val (.ref b517), .val (.long (own_F7 (own_F1 p4 (3 : Int32)) (own_F1 p4 (0 : Int32)))), .second, .val (.long (own_F7 (own_F1 p4 (4 : Int32)) (own_F1 p4 (1 : Int32)))), .second, .val (.long (own_F7 (own_M0_158 p4) (own_M0_173 p4))), .second, .val (.long (own_F7 (own_F1 p4 (6 : Int32)) (0 : Int32))), .second, .val (.long (own_F7 (own_M0_201 p4) (0 : Int32))), .second, .val (.int (1 : Int32))] [(.int p3)]))
    refine own_iloadN X582 hx (hb hby at_325) rfl (q := 326) rfl ?_
    refine own_icN X582 hx (hb hby at_326) (teq (rfl : p3 = p3)).2 (q := 329) rfl ?_
    refine own_iconst X582 hx (hb hby at_329) (z := 1) rfl (q := 330) rfl ?_
    refine own_goto X582 hx (hb hby at_330) (q := 334) (by decide) (by decide) ?_
    refine own_istore X582 hx (hb hby at_334) (l' := #[.val (.int p0), .val (.int p1), .val (.int p2), .val (.int p3), .val (.int p4), .val (.int (0 : Int32)), .val (.int (1 : Int32)), .val (.int (own_F1 p4 (0 : Int32))), .val (.int (own_F1 p4 (1 : Int32))), .val (.int (own_F1 p4 (2 : Int32))), .val (.int (own_F1 p4 (3 : Int32))), .val (.int (own_F1 p4 (4 : Int32))), .val (.int (own_F1 p4 (5 : Int32))), .val (.int (own_F1 p4 (6 : Int32))), .val (.int (own_F1 p4 (7 : Int32))), .val (.int (own_F1 p4 (8 : Int32))), .val (.ref b517), .val (.long (own_F7 (own_F1 p4 (3 : Int32)) (own_F1 p4 (0 : Int32)))), .second, .val (.long (own_F7 (own_F1 p4 (4 : Int32)) (own_F1 p4 (1 : Int32)))), .second, .val (.long (own_F7 (own_M0_158 p4) (own_M0_173 p4))), .second, .val (.long (own_F7 (own_F1 p4 (6 : Int32)) (0 : Int32))), .second, .val (.long (own_F7 (own_M0_201 p4) (0 : Int32))), .second, .val (.int (1 : Int32))]) rfl (q := 336) rfl ?_
    refine own_iload X582 hx (hb hby at_336) rfl (q := 338) rfl ?_
    refine own_ifN X582 hx (hb hby at_338) (feq (by decide : ¬ ((1 : Int32) = (0 : Int32)))).1 (q := 341) rfl ?_
    refine own_aload X582 hx (hb hby at_341) rfl rfl (q := 343) rfl ?_
    refine own_iload X582 hx (hb hby at_343) rfl (q := 345) rfl ?_
    obtain ⟨cq583, kq583, q583a, q583b, q583c⟩ := isOf hZ e582 Q519_539
    obtain ⟨T583, Lc583, L583, X583, N583, hQ583, st583⟩ := own_shutV (val := some (.long (own_F10_1 ((0 : Int64) + (1 : Int64)) (own_G6_1_w_o0_lastRemoval_1 (own_F1 p4 (6 : Int32)) (0 : Int64) (-1 : Int64))))) (Q := own_Q9_1 Z b517 b519_0 b519_2 k519_0 (((0 : Int64) + (1 : Int64)) + (1 : Int64)) ((0 : Int64) + (1 : Int64)) k519_2 (own_G6_0_w_o0_lastRemoval_0 (own_F1 p4 (3 : Int32)) ((0 : Int64) + (1 : Int64)) (own_G6_0_w_o0_lastRemoval_0 (own_F1 p4 (0 : Int32)) (0 : Int64) (-1 : Int64))) (own_G6_1_w_o0_lastRemoval_1 (own_F1 p4 (6 : Int32)) (0 : Int64) (-1 : Int64)) T538.heap n0) (rc := 0) (rs := 0) N582 (fun _ _ _ q => ⟨q.1, q.2.1⟩) (X582.virtualBack hx (y := (⟨"com/example/arcwise/arcwise/adaptation/History", "sinceRemoval", "(I)J"⟩ : MethodName)) (z := (⟨"com/example/arcwise/arcwise/adaptation/History", "sinceRemoval", "(I)J"⟩ : MethodName)) hown (mvT hZ (hw _ (List.mem_of_getElem? (i := 47) rfl))) (mvT hZ (hw _ (List.mem_of_getElem? (i := 48) rfl))) (notFace_of_selects (args := #[]) (mvT hZ (hw _ (List.mem_of_getElem? (i := 50) rfl)))) (mvT hZ (hw _ (List.mem_of_getElem? (i := 50) rfl))) (mvT hZ (hw _ (List.mem_of_getElem? (i := 49) rfl))) (by decide) (backOf (W := 0) (own_rm9_1 l Z a0 hw [] b517 b519_0 b519_2 k519_0 (((0 : Int64) + (1 : Int64)) + (1 : Int64)) ((0 : Int64) + (1 : Int64)) k519_2 (own_G6_0_w_o0_lastRemoval_0 (own_F1 p4 (3 : Int32)) ((0 : Int64) + (1 : Int64)) (own_G6_0_w_o0_lastRemoval_0 (own_F1 p4 (0 : Int32)) (0 : Int64) (-1 : Int64))) (own_G6_1_w_o0_lastRemoval_1 (own_F1 p4 (6 : Int32)) (0 : Int64) (-1 : Int64)) T538.heap n0 Z545 Q519_539 Q519_540 Q519_542 Q538_0 Q538_2) hZ (hw _ (List.mem_of_getElem? (i := 51) rfl)) (hw _ (List.mem_of_getElem? (i := 6) rfl)) (by decide) (by decide)) q583a q583c (g := (mkF m 345 #[.val (.int p0), .val (.int p1), .val (.int p2), .val (.int p3), .val (.int p4), .val (.int (0 : Int32)), .val (.int (1 : Int32)), .val (.int (own_F1 p4 (0 : Int32))), .val (.int (own_F1 p4 (1 : Int32))), .val (.int (own_F1 p4 (2 : Int32))), .val (.int (own_F1 p4 (3 : Int32))), .val (.int (own_F1 p4 (4 : Int32))), .val (.int (own_F1 p4 (5 : Int32))), .val (.int (own_F1 p4 (6 : Int32))), .val (.int (own_F1 p4 (7 : Int32))), .val (.int (own_F1 p4 (8 : Int32))), .val (.ref b517), .val (.long (own_F7 (own_F1 p4 (3 : Int32)) (own_F1 p4 (0 : Int32)))), .second, .val (.long (own_F7 (own_F1 p4 (4 : Int32)) (own_F1 p4 (1 : Int32)))), .second, .val (.long (own_F7 (own_M0_158 p4) (own_M0_173 p4))), .second, .val (.long (own_F7 (own_F1 p4 (6 : Int32)) (0 : Int32))), .second, .val (.long (own_F7 (own_M0_201 p4) (0 : Int32))), .second, .val (.int (1 : Int32))] [(.int (1 : Int32)), (.ref b517)])) rfl (by rw [hml]; rfl) (Steps.refl _) (argsL := [(.int (1 : Int32))]) (rest := []) (lenOf own_pd8 rfl) rfl (by show 2 * 0 + _ ≤ _; exact Nat.le_of_eq rfl) (hb hby at_345) (fun _ _ => ⟨rfl, e582, (by decide : 6 + 0 ≤ _), (by decide : 15 + 0 ≤ _)⟩))
    obtain ⟨-, -, e583⟩ := hQ583
    refine own_via st583 ?_
    show own_End p e below s _ _ _ (T583.setTop (mkF m 348 #[.val (.int p0), .val (.int p1), .val (.int p2), .val (.int p3), .val (.int p4), .val (.int (0 : Int32)), .val (.int (1 : Int32)), .val (.int (own_F1 p4 (0 : Int32))), .val (.int (own_F1 p4 (1 : Int32))), .val (.int (own_F1 p4 (2 : Int32))), .val (.int (own_F1 p4 (3 : Int32))), .val (.int (own_F1 p4 (4 : Int32))), .val (.int (own_F1 p4 (5 : Int32))), .val (.int (own_F1 p4 (6 : Int32))), .val (.int (own_F1 p4 (7 : Int32))), .val (.int (own_F1 p4 (8 : Int32))), .val (.ref b517), .val (.long (own_F7 (own_F1 p4 (3 : Int32)) (own_F1 p4 (0 : Int32)))), .second, .val (.long (own_F7 (own_F1 p4 (4 : Int32)) (own_F1 p4 (1 : Int32)))), .second, .val (.long (own_F7 (own_M0_158 p4) (own_M0_173 p4))), .second, .val (.long (own_F7 (own_F1 p4 (6 : Int32)) (0 : Int32))), .second, .val (.long (own_F7 (own_M0_201 p4) (0 : Int32))), .second, .val (.int (1 : Int32))] [(.long (own_F10_1 ((0 : Int64) + (1 : Int64)) (own_G6_1_w_o0_lastRemoval_1 (own_F1 p4 (6 : Int32)) (0 : Int64) (-1 : Int64))))]))
    refine own_lload X583 hx (hb hby at_348) rfl (q := 350) rfl ?_
    have hk584 : (own_F10_1 ((0 : Int64) + (1 : Int64)) (own_G6_1_w_o0_lastRemoval_1 (own_F1 p4 (6 : Int32)) (0 : Int64) (-1 : Int64))) = (own_F7 (own_F1 p4 (6 : Int32)) (0 : Int32)) := by rcases own_bit p4 6 with t6 | t6 <;> simp only [t6] <;> decide
    refine own_lcN X583 hx (hb hby at_350) (r := 351) rfl (hb hby at_351) (own_teq hk584).2 (q := 354) rfl ?_
    refine own_iconst X583 hx (hb hby at_354) (z := 1) rfl (q := 355) rfl ?_
    refine own_goto X583 hx (hb hby at_355) (q := 359) (by decide) (by decide) ?_
    refine own_istore X583 hx (hb hby at_359) (l' := #[.val (.int p0), .val (.int p1), .val (.int p2), .val (.int p3), .val (.int p4), .val (.int (0 : Int32)), .val (.int (1 : Int32)), .val (.int (own_F1 p4 (0 : Int32))), .val (.int (own_F1 p4 (1 : Int32))), .val (.int (own_F1 p4 (2 : Int32))), .val (.int (own_F1 p4 (3 : Int32))), .val (.int (own_F1 p4 (4 : Int32))), .val (.int (own_F1 p4 (5 : Int32))), .val (.int (own_F1 p4 (6 : Int32))), .val (.int (own_F1 p4 (7 : Int32))), .val (.int (own_F1 p4 (8 : Int32))), .val (.ref b517), .val (.long (own_F7 (own_F1 p4 (3 : Int32)) (own_F1 p4 (0 : Int32)))), .second, .val (.long (own_F7 (own_F1 p4 (4 : Int32)) (own_F1 p4 (1 : Int32)))), .second, .val (.long (own_F7 (own_M0_158 p4) (own_M0_173 p4))), .second, .val (.long (own_F7 (own_F1 p4 (6 : Int32)) (0 : Int32))), .second, .val (.long (own_F7 (own_M0_201 p4) (0 : Int32))), .second, .val (.int (1 : Int32))]) rfl (q := 361) rfl ?_
    refine own_iload X583 hx (hb hby at_361) rfl (q := 363) rfl ?_
    refine own_ifN X583 hx (hb hby at_363) (feq (by decide : ¬ ((1 : Int32) = (0 : Int32)))).1 (q := 366) rfl ?_
    refine own_aload X583 hx (hb hby at_366) rfl rfl (q := 368) rfl ?_
    refine own_iload X583 hx (hb hby at_368) rfl (q := 370) rfl ?_
    obtain ⟨cq585, kq585, q585a, q585b, q585c⟩ := isOf hZ e583 Q519_539
    obtain ⟨T585, Lc585, L585, X585, N585, hQ585, st585⟩ := own_shutV (val := some (.long (own_F10_1 ((0 : Int64) + (1 : Int64)) (own_G6_1_w_o0_lastStrongRemoval_1 (own_F1 p4 (7 : Int32)) (own_F1 p4 (8 : Int32)) (0 : Int64) (-1 : Int64))))) (Q := own_Q12_1 Z b517 b519_0 b519_3 k519_0 (((0 : Int64) + (1 : Int64)) + (1 : Int64)) ((0 : Int64) + (1 : Int64)) k519_3 (own_G6_0_w_o0_lastStrongRemoval_0 (own_F1 p4 (4 : Int32)) (own_F1 p4 (5 : Int32)) ((0 : Int64) + (1 : Int64)) (own_G6_0_w_o0_lastStrongRemoval_0 (own_F1 p4 (1 : Int32)) (own_F1 p4 (2 : Int32)) (0 : Int64) (-1 : Int64))) (own_G6_1_w_o0_lastStrongRemoval_1 (own_F1 p4 (7 : Int32)) (own_F1 p4 (8 : Int32)) (0 : Int64) (-1 : Int64)) T538.heap n0) (rc := 0) (rs := 0) N583 (fun _ _ _ q => ⟨q.1, q.2.1⟩) (X583.virtualBack hx (y := (⟨"com/example/arcwise/arcwise/adaptation/History", "sinceStrongRemoval", "(I)J"⟩ : MethodName)) (z := (⟨"com/example/arcwise/arcwise/adaptation/History", "sinceStrongRemoval", "(I)J"⟩ : MethodName)) hown (mvT hZ (hw _ (List.mem_of_getElem? (i := 62) rfl))) (mvT hZ (hw _ (List.mem_of_getElem? (i := 63) rfl))) (notFace_of_selects (args := #[]) (mvT hZ (hw _ (List.mem_of_getElem? (i := 65) rfl)))) (mvT hZ (hw _ (List.mem_of_getElem? (i := 65) rfl))) (mvT hZ (hw _ (List.mem_of_getElem? (i := 64) rfl))) (by decide) (backOf (W := 0) (own_rm12_1 l Z a0 hw [] b517 b519_0 b519_3 k519_0 (((0 : Int64) + (1 : Int64)) + (1 : Int64)) ((0 : Int64) + (1 : Int64)) k519_3 (own_G6_0_w_o0_lastStrongRemoval_0 (own_F1 p4 (4 : Int32)) (own_F1 p4 (5 : Int32)) ((0 : Int64) + (1 : Int64)) (own_G6_0_w_o0_lastStrongRemoval_0 (own_F1 p4 (1 : Int32)) (own_F1 p4 (2 : Int32)) (0 : Int64) (-1 : Int64))) (own_G6_1_w_o0_lastStrongRemoval_1 (own_F1 p4 (7 : Int32)) (own_F1 p4 (8 : Int32)) (0 : Int64) (-1 : Int64)) T538.heap n0 Z545 Q519_539 Q519_540 Q519_543 Q538_0 Q538_3) hZ (hw _ (List.mem_of_getElem? (i := 66) rfl)) (hw _ (List.mem_of_getElem? (i := 6) rfl)) (by decide) (by decide)) q585a q585c (g := (mkF m 370 #[.val (.int p0), .val (.int p1), .val (.int p2), .val (.int p3), .val (.int p4), .val (.int (0 : Int32)), .val (.int (1 : Int32)), .val (.int (own_F1 p4 (0 : Int32))), .val (.int (own_F1 p4 (1 : Int32))), .val (.int (own_F1 p4 (2 : Int32))), .val (.int (own_F1 p4 (3 : Int32))), .val (.int (own_F1 p4 (4 : Int32))), .val (.int (own_F1 p4 (5 : Int32))), .val (.int (own_F1 p4 (6 : Int32))), .val (.int (own_F1 p4 (7 : Int32))), .val (.int (own_F1 p4 (8 : Int32))), .val (.ref b517), .val (.long (own_F7 (own_F1 p4 (3 : Int32)) (own_F1 p4 (0 : Int32)))), .second, .val (.long (own_F7 (own_F1 p4 (4 : Int32)) (own_F1 p4 (1 : Int32)))), .second, .val (.long (own_F7 (own_M0_158 p4) (own_M0_173 p4))), .second, .val (.long (own_F7 (own_F1 p4 (6 : Int32)) (0 : Int32))), .second, .val (.long (own_F7 (own_M0_201 p4) (0 : Int32))), .second, .val (.int (1 : Int32))] [(.int (1 : Int32)), (.ref b517)])) rfl (by rw [hml]; rfl) (Steps.refl _) (argsL := [(.int (1 : Int32))]) (rest := []) (lenOf own_pd8 rfl) rfl (by show 2 * 0 + _ ≤ _; exact Nat.le_of_eq rfl) (hb hby at_370) (fun _ _ => ⟨rfl, e583, (by decide : 6 + 0 ≤ _), (by decide : 15 + 0 ≤ _)⟩))
    obtain ⟨-, -, e585⟩ := hQ585
    refine own_via st585 ?_
    show own_End p e below s _ _ _ (T585.setTop (mkF m 373 #[.val (.int p0), .val (.int p1), .val (.int p2), .val (.int p3), .val (.int p4), .val (.int (0 : Int32)), .val (.int (1 : Int32)), .val (.int (own_F1 p4 (0 : Int32))), .val (.int (own_F1 p4 (1 : Int32))), .val (.int (own_F1 p4 (2 : Int32))), .val (.int (own_F1 p4 (3 : Int32))), .val (.int (own_F1 p4 (4 : Int32))), .val (.int (own_F1 p4 (5 : Int32))), .val (.int (own_F1 p4 (6 : Int32))), .val (.int (own_F1 p4 (7 : Int32))), .val (.int (own_F1 p4 (8 : Int32))), .val (.ref b517), .val (.long (own_F7 (own_F1 p4 (3 : Int32)) (own_F1 p4 (0 : Int32)))), .second, .val (.long (own_F7 (own_F1 p4 (4 : Int32)) (own_F1 p4 (1 : Int32)))), .second, .val (.long (own_F7 (own_M0_158 p4) (own_M0_173 p4))), .second, .val (.long (own_F7 (own_F1 p4 (6 : Int32)) (0 : Int32))), .second, .val (.long (own_F7 (own_M0_201 p4) (0 : Int32))), .second, .val (.int (1 : Int32))] [(.long (own_F10_1 ((0 : Int64) + (1 : Int64)) (own_G6_1_w_o0_lastStrongRemoval_1 (own_F1 p4 (7 : Int32)) (own_F1 p4 (8 : Int32)) (0 : Int64) (-1 : Int64))))]))
    refine own_lload X585 hx (hb hby at_373) rfl (q := 375) rfl ?_
    have hk586 : (own_F10_1 ((0 : Int64) + (1 : Int64)) (own_G6_1_w_o0_lastStrongRemoval_1 (own_F1 p4 (7 : Int32)) (own_F1 p4 (8 : Int32)) (0 : Int64) (-1 : Int64))) = (own_F7 (own_M0_201 p4) (0 : Int32)) := by rw [own_M0_201, own_M0_206]; rcases own_bit p4 7 with t7 | t7 <;> rcases own_bit p4 8 with t8 | t8 <;> simp only [t7, t8] <;> decide
    refine own_lcN X585 hx (hb hby at_375) (r := 376) rfl (hb hby at_376) (own_teq hk586).2 (q := 379) rfl ?_
    refine own_iconst X585 hx (hb hby at_379) (z := 1) rfl (q := 380) rfl ?_
    refine own_goto X585 hx (hb hby at_380) (q := 384) (by decide) (by decide) ?_
    refine own_istore X585 hx (hb hby at_384) (l' := #[.val (.int p0), .val (.int p1), .val (.int p2), .val (.int p3), .val (.int p4), .val (.int (0 : Int32)), .val (.int (1 : Int32)), .val (.int (own_F1 p4 (0 : Int32))), .val (.int (own_F1 p4 (1 : Int32))), .val (.int (own_F1 p4 (2 : Int32))), .val (.int (own_F1 p4 (3 : Int32))), .val (.int (own_F1 p4 (4 : Int32))), .val (.int (own_F1 p4 (5 : Int32))), .val (.int (own_F1 p4 (6 : Int32))), .val (.int (own_F1 p4 (7 : Int32))), .val (.int (own_F1 p4 (8 : Int32))), .val (.ref b517), .val (.long (own_F7 (own_F1 p4 (3 : Int32)) (own_F1 p4 (0 : Int32)))), .second, .val (.long (own_F7 (own_F1 p4 (4 : Int32)) (own_F1 p4 (1 : Int32)))), .second, .val (.long (own_F7 (own_M0_158 p4) (own_M0_173 p4))), .second, .val (.long (own_F7 (own_F1 p4 (6 : Int32)) (0 : Int32))), .second, .val (.long (own_F7 (own_M0_201 p4) (0 : Int32))), .second, .val (.int (1 : Int32))]) rfl (q := 386) rfl ?_
    refine own_iload X585 hx (hb hby at_386) rfl (q := 388) rfl ?_
    refine own_retN X585 hx (t := .boolean) (by simp) Bd.returns Bd.notSynchronized (by decide) (by decide) (hb hby at_388) ?_
    show own_Q0 Z p0 p1 p2 p3 p4 h0 n0 _ T585.heap _
    exact ⟨rfl, N585⟩
  · have hz588 : (p0 &&& (1 : Int32)) = (1 : Int32) := own_and1 p0 hz507
    rw [hz588]
    refine own_istore X0 hx (hb hby at_3) (l' := #[.val (.int p0), .val (.int p1), .val (.int p2), .val (.int p3), .val (.int p4), .val (.int (1 : Int32)), .unset, .unset, .unset, .unset, .unset, .unset, .unset, .unset, .unset, .unset, .unset, .unset, .unset, .unset, .unset, .unset, .unset, .unset, .unset, .unset, .unset, .unset]) rfl (q := 5) rfl ?_
    refine own_iconst X0 hx (hb hby at_5) (z := 1) rfl (q := 6) rfl ?_
    refine own_iload X0 hx (hb hby at_6) rfl (q := 8) rfl ?_
    refine own_isub X0 hx (hb hby at_8) (q := 9) rfl ?_
    show own_End p e below s _ _ _ (s₁.setTop (mkF m 9 #[.val (.int p0), .val (.int p1), .val (.int p2), .val (.int p3), .val (.int p4), .val (.int (1 : Int32)), .unset, .unset, .unset, .unset, .unset, .unset, .unset, .unset, .unset, .unset, .unset, .unset, .unset, .unset, .unset, .unset, .unset, .unset, .unset, .unset, .unset, .unset] [(.int (0 : Int32))]))
    refine own_istore X0 hx (hb hby at_9) (l' := #[.val (.int p0), .val (.int p1), .val (.int p2), .val (.int p3), .val (.int p4), .val (.int (1 : Int32)), .val (.int (0 : Int32)), .unset, .unset, .unset, .unset, .unset, .unset, .unset, .unset, .unset, .unset, .unset, .unset, .unset, .unset, .unset, .unset, .unset, .unset, .unset, .unset, .unset]) rfl (q := 11) rfl ?_
    refine own_iload X0 hx (hb hby at_11) rfl (q := 13) rfl ?_
    refine own_iconst X0 hx (hb hby at_13) (z := 0) rfl (q := 14) rfl ?_
    obtain ⟨T589, Lc589, L589, X589, N589, hQ589, st589⟩ := own_shutS (val := some (.int (own_F1 p4 (0 : Int32)))) (Q := own_Q1 Z p4 (0 : Int32) h0 n0) (rc := 0) (rs := 0) N0 (fun _ _ _ q => ⟨q.1, q.2.1⟩) (Jvm.LawKit.callS X0 hx (y := (⟨"com/example/arcwise/arcwise/adaptation/HistoryRevisedPinLaw", "bit", "(II)Z"⟩ : MethodName)) hown (mvT hZ (hw _ (List.mem_of_getElem? (i := 0) rfl))) (mvT hZ (hw _ (List.mem_of_getElem? (i := 1) rfl))) (mvT hZ (hw _ (List.mem_of_getElem? (i := 2) rfl))) (mvT hZ (hw _ (List.mem_of_getElem? (i := 3) rfl))) (by decide) (backOf (W := 0) (own_rm1 l Z a0 hw [] p4 (0 : Int32) h0 n0 Z0 ) hZ (hw _ (List.mem_of_getElem? (i := 3) rfl)) (hw _ (List.mem_of_getElem? (i := 2) rfl)) (by decide) (by decide)) (g := (mkF m 14 #[.val (.int p0), .val (.int p1), .val (.int p2), .val (.int p3), .val (.int p4), .val (.int (1 : Int32)), .val (.int (0 : Int32)), .unset, .unset, .unset, .unset, .unset, .unset, .unset, .unset, .unset, .unset, .unset, .unset, .unset, .unset, .unset, .unset, .unset, .unset, .unset, .unset, .unset] [(.int (0 : Int32)), (.int p4)])) rfl (by rw [hml]; rfl) (argsL := [(.int p4), (.int (0 : Int32))]) (rest := []) (lenOf own_pd3 rfl) rfl (by show 2 * 0 + _ ≤ _; exact Nat.le_of_eq rfl) (hb hby at_14) (fun _ _ => ⟨rfl, e0, (by decide : 0 + 0 ≤ _), (by decide : 0 + 0 ≤ _)⟩))
    obtain ⟨-, -, e589⟩ := hQ589
    refine own_back st589 ?_
    show own_End p e below s _ _ _ (T589.setTop (mkF m 17 #[.val (.int p0), .val (.int p1), .val (.int p2), .val (.int p3), .val (.int p4), .val (.int (1 : Int32)), .val (.int (0 : Int32)), .unset, .unset, .unset, .unset, .unset, .unset, .unset, .unset, .unset, .unset, .unset, .unset, .unset, .unset, .unset, .unset, .unset, .unset, .unset, .unset, .unset] [(.int (own_F1 p4 (0 : Int32)))]))
    refine own_istore X589 hx (hb hby at_17) (l' := #[.val (.int p0), .val (.int p1), .val (.int p2), .val (.int p3), .val (.int p4), .val (.int (1 : Int32)), .val (.int (0 : Int32)), .val (.int (own_F1 p4 (0 : Int32))), .unset, .unset, .unset, .unset, .unset, .unset, .unset, .unset, .unset, .unset, .unset, .unset, .unset, .unset, .unset, .unset, .unset, .unset, .unset, .unset]) rfl (q := 19) rfl ?_
    refine own_iload X589 hx (hb hby at_19) rfl (q := 21) rfl ?_
    refine own_iconst X589 hx (hb hby at_21) (z := 1) rfl (q := 22) rfl ?_
    obtain ⟨T590, Lc590, L590, X590, N590, hQ590, st590⟩ := own_shutS (val := some (.int (own_F1 p4 (1 : Int32)))) (Q := own_Q1 Z p4 (1 : Int32) h0 n0) (rc := 0) (rs := 0) N589 (fun _ _ _ q => ⟨q.1, q.2.1⟩) (Jvm.LawKit.callS X589 hx (y := (⟨"com/example/arcwise/arcwise/adaptation/HistoryRevisedPinLaw", "bit", "(II)Z"⟩ : MethodName)) hown (mvT hZ (hw _ (List.mem_of_getElem? (i := 0) rfl))) (mvT hZ (hw _ (List.mem_of_getElem? (i := 1) rfl))) (mvT hZ (hw _ (List.mem_of_getElem? (i := 2) rfl))) (mvT hZ (hw _ (List.mem_of_getElem? (i := 3) rfl))) (by decide) (backOf (W := 0) (own_rm1 l Z a0 hw [] p4 (1 : Int32) h0 n0 Z0 ) hZ (hw _ (List.mem_of_getElem? (i := 3) rfl)) (hw _ (List.mem_of_getElem? (i := 2) rfl)) (by decide) (by decide)) (g := (mkF m 22 #[.val (.int p0), .val (.int p1), .val (.int p2), .val (.int p3), .val (.int p4), .val (.int (1 : Int32)), .val (.int (0 : Int32)), .val (.int (own_F1 p4 (0 : Int32))), .unset, .unset, .unset, .unset, .unset, .unset, .unset, .unset, .unset, .unset, .unset, .unset, .unset, .unset, .unset, .unset, .unset, .unset, .unset, .unset] [(.int (1 : Int32)), (.int p4)])) rfl (by rw [hml]; rfl) (argsL := [(.int p4), (.int (1 : Int32))]) (rest := []) (lenOf own_pd3 rfl) rfl (by show 2 * 0 + _ ≤ _; exact Nat.le_of_eq rfl) (hb hby at_22) (fun _ _ => ⟨rfl, e589, (by decide : 0 + 0 ≤ _), (by decide : 0 + 0 ≤ _)⟩))
    obtain ⟨-, -, e590⟩ := hQ590
    refine own_back st590 ?_
    show own_End p e below s _ _ _ (T590.setTop (mkF m 25 #[.val (.int p0), .val (.int p1), .val (.int p2), .val (.int p3), .val (.int p4), .val (.int (1 : Int32)), .val (.int (0 : Int32)), .val (.int (own_F1 p4 (0 : Int32))), .unset, .unset, .unset, .unset, .unset, .unset, .unset, .unset, .unset, .unset, .unset, .unset, .unset, .unset, .unset, .unset, .unset, .unset, .unset, .unset] [(.int (own_F1 p4 (1 : Int32)))]))
    refine own_istore X590 hx (hb hby at_25) (l' := #[.val (.int p0), .val (.int p1), .val (.int p2), .val (.int p3), .val (.int p4), .val (.int (1 : Int32)), .val (.int (0 : Int32)), .val (.int (own_F1 p4 (0 : Int32))), .val (.int (own_F1 p4 (1 : Int32))), .unset, .unset, .unset, .unset, .unset, .unset, .unset, .unset, .unset, .unset, .unset, .unset, .unset, .unset, .unset, .unset, .unset, .unset, .unset]) rfl (q := 27) rfl ?_
    refine own_iload X590 hx (hb hby at_27) rfl (q := 29) rfl ?_
    refine own_iconst X590 hx (hb hby at_29) (z := 2) rfl (q := 30) rfl ?_
    obtain ⟨T591, Lc591, L591, X591, N591, hQ591, st591⟩ := own_shutS (val := some (.int (own_F1 p4 (2 : Int32)))) (Q := own_Q1 Z p4 (2 : Int32) h0 n0) (rc := 0) (rs := 0) N590 (fun _ _ _ q => ⟨q.1, q.2.1⟩) (Jvm.LawKit.callS X590 hx (y := (⟨"com/example/arcwise/arcwise/adaptation/HistoryRevisedPinLaw", "bit", "(II)Z"⟩ : MethodName)) hown (mvT hZ (hw _ (List.mem_of_getElem? (i := 0) rfl))) (mvT hZ (hw _ (List.mem_of_getElem? (i := 1) rfl))) (mvT hZ (hw _ (List.mem_of_getElem? (i := 2) rfl))) (mvT hZ (hw _ (List.mem_of_getElem? (i := 3) rfl))) (by decide) (backOf (W := 0) (own_rm1 l Z a0 hw [] p4 (2 : Int32) h0 n0 Z0 ) hZ (hw _ (List.mem_of_getElem? (i := 3) rfl)) (hw _ (List.mem_of_getElem? (i := 2) rfl)) (by decide) (by decide)) (g := (mkF m 30 #[.val (.int p0), .val (.int p1), .val (.int p2), .val (.int p3), .val (.int p4), .val (.int (1 : Int32)), .val (.int (0 : Int32)), .val (.int (own_F1 p4 (0 : Int32))), .val (.int (own_F1 p4 (1 : Int32))), .unset, .unset, .unset, .unset, .unset, .unset, .unset, .unset, .unset, .unset, .unset, .unset, .unset, .unset, .unset, .unset, .unset, .unset, .unset] [(.int (2 : Int32)), (.int p4)])) rfl (by rw [hml]; rfl) (argsL := [(.int p4), (.int (2 : Int32))]) (rest := []) (lenOf own_pd3 rfl) rfl (by show 2 * 0 + _ ≤ _; exact Nat.le_of_eq rfl) (hb hby at_30) (fun _ _ => ⟨rfl, e590, (by decide : 0 + 0 ≤ _), (by decide : 0 + 0 ≤ _)⟩))
    obtain ⟨-, -, e591⟩ := hQ591
    refine own_back st591 ?_
    show own_End p e below s _ _ _ (T591.setTop (mkF m 33 #[.val (.int p0), .val (.int p1), .val (.int p2), .val (.int p3), .val (.int p4), .val (.int (1 : Int32)), .val (.int (0 : Int32)), .val (.int (own_F1 p4 (0 : Int32))), .val (.int (own_F1 p4 (1 : Int32))), .unset, .unset, .unset, .unset, .unset, .unset, .unset, .unset, .unset, .unset, .unset, .unset, .unset, .unset, .unset, .unset, .unset, .unset, .unset] [(.int (own_F1 p4 (2 : Int32)))]))
    refine own_istore X591 hx (hb hby at_33) (l' := #[.val (.int p0), .val (.int p1), .val (.int p2), .val (.int p3), .val (.int p4), .val (.int (1 : Int32)), .val (.int (0 : Int32)), .val (.int (own_F1 p4 (0 : Int32))), .val (.int (own_F1 p4 (1 : Int32))), .val (.int (own_F1 p4 (2 : Int32))), .unset, .unset, .unset, .unset, .unset, .unset, .unset, .unset, .unset, .unset, .unset, .unset, .unset, .unset, .unset, .unset, .unset, .unset]) rfl (q := 35) rfl ?_
    refine own_iload X591 hx (hb hby at_35) rfl (q := 37) rfl ?_
    refine own_iconst X591 hx (hb hby at_37) (z := 3) rfl (q := 38) rfl ?_
    obtain ⟨T592, Lc592, L592, X592, N592, hQ592, st592⟩ := own_shutS (val := some (.int (own_F1 p4 (3 : Int32)))) (Q := own_Q1 Z p4 (3 : Int32) h0 n0) (rc := 0) (rs := 0) N591 (fun _ _ _ q => ⟨q.1, q.2.1⟩) (Jvm.LawKit.callS X591 hx (y := (⟨"com/example/arcwise/arcwise/adaptation/HistoryRevisedPinLaw", "bit", "(II)Z"⟩ : MethodName)) hown (mvT hZ (hw _ (List.mem_of_getElem? (i := 0) rfl))) (mvT hZ (hw _ (List.mem_of_getElem? (i := 1) rfl))) (mvT hZ (hw _ (List.mem_of_getElem? (i := 2) rfl))) (mvT hZ (hw _ (List.mem_of_getElem? (i := 3) rfl))) (by decide) (backOf (W := 0) (own_rm1 l Z a0 hw [] p4 (3 : Int32) h0 n0 Z0 ) hZ (hw _ (List.mem_of_getElem? (i := 3) rfl)) (hw _ (List.mem_of_getElem? (i := 2) rfl)) (by decide) (by decide)) (g := (mkF m 38 #[.val (.int p0), .val (.int p1), .val (.int p2), .val (.int p3), .val (.int p4), .val (.int (1 : Int32)), .val (.int (0 : Int32)), .val (.int (own_F1 p4 (0 : Int32))), .val (.int (own_F1 p4 (1 : Int32))), .val (.int (own_F1 p4 (2 : Int32))), .unset, .unset, .unset, .unset, .unset, .unset, .unset, .unset, .unset, .unset, .unset, .unset, .unset, .unset, .unset, .unset, .unset, .unset] [(.int (3 : Int32)), (.int p4)])) rfl (by rw [hml]; rfl) (argsL := [(.int p4), (.int (3 : Int32))]) (rest := []) (lenOf own_pd3 rfl) rfl (by show 2 * 0 + _ ≤ _; exact Nat.le_of_eq rfl) (hb hby at_38) (fun _ _ => ⟨rfl, e591, (by decide : 0 + 0 ≤ _), (by decide : 0 + 0 ≤ _)⟩))
    obtain ⟨-, -, e592⟩ := hQ592
    refine own_back st592 ?_
    show own_End p e below s _ _ _ (T592.setTop (mkF m 41 #[.val (.int p0), .val (.int p1), .val (.int p2), .val (.int p3), .val (.int p4), .val (.int (1 : Int32)), .val (.int (0 : Int32)), .val (.int (own_F1 p4 (0 : Int32))), .val (.int (own_F1 p4 (1 : Int32))), .val (.int (own_F1 p4 (2 : Int32))), .unset, .unset, .unset, .unset, .unset, .unset, .unset, .unset, .unset, .unset, .unset, .unset, .unset, .unset, .unset, .unset, .unset, .unset] [(.int (own_F1 p4 (3 : Int32)))]))
    refine own_istore X592 hx (hb hby at_41) (l' := #[.val (.int p0), .val (.int p1), .val (.int p2), .val (.int p3), .val (.int p4), .val (.int (1 : Int32)), .val (.int (0 : Int32)), .val (.int (own_F1 p4 (0 : Int32))), .val (.int (own_F1 p4 (1 : Int32))), .val (.int (own_F1 p4 (2 : Int32))), .val (.int (own_F1 p4 (3 : Int32))), .unset, .unset, .unset, .unset, .unset, .unset, .unset, .unset, .unset, .unset, .unset, .unset, .unset, .unset, .unset, .unset, .unset]) rfl (q := 43) rfl ?_
    refine own_iload X592 hx (hb hby at_43) rfl (q := 45) rfl ?_
    refine own_iconst X592 hx (hb hby at_45) (z := 4) rfl (q := 46) rfl ?_
    obtain ⟨T593, Lc593, L593, X593, N593, hQ593, st593⟩ := own_shutS (val := some (.int (own_F1 p4 (4 : Int32)))) (Q := own_Q1 Z p4 (4 : Int32) h0 n0) (rc := 0) (rs := 0) N592 (fun _ _ _ q => ⟨q.1, q.2.1⟩) (Jvm.LawKit.callS X592 hx (y := (⟨"com/example/arcwise/arcwise/adaptation/HistoryRevisedPinLaw", "bit", "(II)Z"⟩ : MethodName)) hown (mvT hZ (hw _ (List.mem_of_getElem? (i := 0) rfl))) (mvT hZ (hw _ (List.mem_of_getElem? (i := 1) rfl))) (mvT hZ (hw _ (List.mem_of_getElem? (i := 2) rfl))) (mvT hZ (hw _ (List.mem_of_getElem? (i := 3) rfl))) (by decide) (backOf (W := 0) (own_rm1 l Z a0 hw [] p4 (4 : Int32) h0 n0 Z0 ) hZ (hw _ (List.mem_of_getElem? (i := 3) rfl)) (hw _ (List.mem_of_getElem? (i := 2) rfl)) (by decide) (by decide)) (g := (mkF m 46 #[.val (.int p0), .val (.int p1), .val (.int p2), .val (.int p3), .val (.int p4), .val (.int (1 : Int32)), .val (.int (0 : Int32)), .val (.int (own_F1 p4 (0 : Int32))), .val (.int (own_F1 p4 (1 : Int32))), .val (.int (own_F1 p4 (2 : Int32))), .val (.int (own_F1 p4 (3 : Int32))), .unset, .unset, .unset, .unset, .unset, .unset, .unset, .unset, .unset, .unset, .unset, .unset, .unset, .unset, .unset, .unset, .unset] [(.int (4 : Int32)), (.int p4)])) rfl (by rw [hml]; rfl) (argsL := [(.int p4), (.int (4 : Int32))]) (rest := []) (lenOf own_pd3 rfl) rfl (by show 2 * 0 + _ ≤ _; exact Nat.le_of_eq rfl) (hb hby at_46) (fun _ _ => ⟨rfl, e592, (by decide : 0 + 0 ≤ _), (by decide : 0 + 0 ≤ _)⟩))
    obtain ⟨-, -, e593⟩ := hQ593
    refine own_back st593 ?_
    show own_End p e below s _ _ _ (T593.setTop (mkF m 49 #[.val (.int p0), .val (.int p1), .val (.int p2), .val (.int p3), .val (.int p4), .val (.int (1 : Int32)), .val (.int (0 : Int32)), .val (.int (own_F1 p4 (0 : Int32))), .val (.int (own_F1 p4 (1 : Int32))), .val (.int (own_F1 p4 (2 : Int32))), .val (.int (own_F1 p4 (3 : Int32))), .unset, .unset, .unset, .unset, .unset, .unset, .unset, .unset, .unset, .unset, .unset, .unset, .unset, .unset, .unset, .unset, .unset] [(.int (own_F1 p4 (4 : Int32)))]))
    refine own_istore X593 hx (hb hby at_49) (l' := #[.val (.int p0), .val (.int p1), .val (.int p2), .val (.int p3), .val (.int p4), .val (.int (1 : Int32)), .val (.int (0 : Int32)), .val (.int (own_F1 p4 (0 : Int32))), .val (.int (own_F1 p4 (1 : Int32))), .val (.int (own_F1 p4 (2 : Int32))), .val (.int (own_F1 p4 (3 : Int32))), .val (.int (own_F1 p4 (4 : Int32))), .unset, .unset, .unset, .unset, .unset, .unset, .unset, .unset, .unset, .unset, .unset, .unset, .unset, .unset, .unset, .unset]) rfl (q := 51) rfl ?_
    refine own_iload X593 hx (hb hby at_51) rfl (q := 53) rfl ?_
    refine own_iconst X593 hx (hb hby at_53) (z := 5) rfl (q := 54) rfl ?_
    obtain ⟨T594, Lc594, L594, X594, N594, hQ594, st594⟩ := own_shutS (val := some (.int (own_F1 p4 (5 : Int32)))) (Q := own_Q1 Z p4 (5 : Int32) h0 n0) (rc := 0) (rs := 0) N593 (fun _ _ _ q => ⟨q.1, q.2.1⟩) (Jvm.LawKit.callS X593 hx (y := (⟨"com/example/arcwise/arcwise/adaptation/HistoryRevisedPinLaw", "bit", "(II)Z"⟩ : MethodName)) hown (mvT hZ (hw _ (List.mem_of_getElem? (i := 0) rfl))) (mvT hZ (hw _ (List.mem_of_getElem? (i := 1) rfl))) (mvT hZ (hw _ (List.mem_of_getElem? (i := 2) rfl))) (mvT hZ (hw _ (List.mem_of_getElem? (i := 3) rfl))) (by decide) (backOf (W := 0) (own_rm1 l Z a0 hw [] p4 (5 : Int32) h0 n0 Z0 ) hZ (hw _ (List.mem_of_getElem? (i := 3) rfl)) (hw _ (List.mem_of_getElem? (i := 2) rfl)) (by decide) (by decide)) (g := (mkF m 54 #[.val (.int p0), .val (.int p1), .val (.int p2), .val (.int p3), .val (.int p4), .val (.int (1 : Int32)), .val (.int (0 : Int32)), .val (.int (own_F1 p4 (0 : Int32))), .val (.int (own_F1 p4 (1 : Int32))), .val (.int (own_F1 p4 (2 : Int32))), .val (.int (own_F1 p4 (3 : Int32))), .val (.int (own_F1 p4 (4 : Int32))), .unset, .unset, .unset, .unset, .unset, .unset, .unset, .unset, .unset, .unset, .unset, .unset, .unset, .unset, .unset, .unset] [(.int (5 : Int32)), (.int p4)])) rfl (by rw [hml]; rfl) (argsL := [(.int p4), (.int (5 : Int32))]) (rest := []) (lenOf own_pd3 rfl) rfl (by show 2 * 0 + _ ≤ _; exact Nat.le_of_eq rfl) (hb hby at_54) (fun _ _ => ⟨rfl, e593, (by decide : 0 + 0 ≤ _), (by decide : 0 + 0 ≤ _)⟩))
    obtain ⟨-, -, e594⟩ := hQ594
    refine own_back st594 ?_
    show own_End p e below s _ _ _ (T594.setTop (mkF m 57 #[.val (.int p0), .val (.int p1), .val (.int p2), .val (.int p3), .val (.int p4), .val (.int (1 : Int32)), .val (.int (0 : Int32)), .val (.int (own_F1 p4 (0 : Int32))), .val (.int (own_F1 p4 (1 : Int32))), .val (.int (own_F1 p4 (2 : Int32))), .val (.int (own_F1 p4 (3 : Int32))), .val (.int (own_F1 p4 (4 : Int32))), .unset, .unset, .unset, .unset, .unset, .unset, .unset, .unset, .unset, .unset, .unset, .unset, .unset, .unset, .unset, .unset] [(.int (own_F1 p4 (5 : Int32)))]))
    refine own_istore X594 hx (hb hby at_57) (l' := #[.val (.int p0), .val (.int p1), .val (.int p2), .val (.int p3), .val (.int p4), .val (.int (1 : Int32)), .val (.int (0 : Int32)), .val (.int (own_F1 p4 (0 : Int32))), .val (.int (own_F1 p4 (1 : Int32))), .val (.int (own_F1 p4 (2 : Int32))), .val (.int (own_F1 p4 (3 : Int32))), .val (.int (own_F1 p4 (4 : Int32))), .val (.int (own_F1 p4 (5 : Int32))), .unset, .unset, .unset, .unset, .unset, .unset, .unset, .unset, .unset, .unset, .unset, .unset, .unset, .unset, .unset]) rfl (q := 59) rfl ?_
    refine own_iload X594 hx (hb hby at_59) rfl (q := 61) rfl ?_
    refine own_bipush X594 hx (hb hby at_61) (z := 6) rfl (q := 63) rfl ?_
    obtain ⟨T595, Lc595, L595, X595, N595, hQ595, st595⟩ := own_shutS (val := some (.int (own_F1 p4 (6 : Int32)))) (Q := own_Q1 Z p4 (6 : Int32) h0 n0) (rc := 0) (rs := 0) N594 (fun _ _ _ q => ⟨q.1, q.2.1⟩) (Jvm.LawKit.callS X594 hx (y := (⟨"com/example/arcwise/arcwise/adaptation/HistoryRevisedPinLaw", "bit", "(II)Z"⟩ : MethodName)) hown (mvT hZ (hw _ (List.mem_of_getElem? (i := 0) rfl))) (mvT hZ (hw _ (List.mem_of_getElem? (i := 1) rfl))) (mvT hZ (hw _ (List.mem_of_getElem? (i := 2) rfl))) (mvT hZ (hw _ (List.mem_of_getElem? (i := 3) rfl))) (by decide) (backOf (W := 0) (own_rm1 l Z a0 hw [] p4 (6 : Int32) h0 n0 Z0 ) hZ (hw _ (List.mem_of_getElem? (i := 3) rfl)) (hw _ (List.mem_of_getElem? (i := 2) rfl)) (by decide) (by decide)) (g := (mkF m 63 #[.val (.int p0), .val (.int p1), .val (.int p2), .val (.int p3), .val (.int p4), .val (.int (1 : Int32)), .val (.int (0 : Int32)), .val (.int (own_F1 p4 (0 : Int32))), .val (.int (own_F1 p4 (1 : Int32))), .val (.int (own_F1 p4 (2 : Int32))), .val (.int (own_F1 p4 (3 : Int32))), .val (.int (own_F1 p4 (4 : Int32))), .val (.int (own_F1 p4 (5 : Int32))), .unset, .unset, .unset, .unset, .unset, .unset, .unset, .unset, .unset, .unset, .unset, .unset, .unset, .unset, .unset] [(.int (6 : Int32)), (.int p4)])) rfl (by rw [hml]; rfl) (argsL := [(.int p4), (.int (6 : Int32))]) (rest := []) (lenOf own_pd3 rfl) rfl (by show 2 * 0 + _ ≤ _; exact Nat.le_of_eq rfl) (hb hby at_63) (fun _ _ => ⟨rfl, e594, (by decide : 0 + 0 ≤ _), (by decide : 0 + 0 ≤ _)⟩))
    obtain ⟨-, -, e595⟩ := hQ595
    refine own_back st595 ?_
    show own_End p e below s _ _ _ (T595.setTop (mkF m 66 #[.val (.int p0), .val (.int p1), .val (.int p2), .val (.int p3), .val (.int p4), .val (.int (1 : Int32)), .val (.int (0 : Int32)), .val (.int (own_F1 p4 (0 : Int32))), .val (.int (own_F1 p4 (1 : Int32))), .val (.int (own_F1 p4 (2 : Int32))), .val (.int (own_F1 p4 (3 : Int32))), .val (.int (own_F1 p4 (4 : Int32))), .val (.int (own_F1 p4 (5 : Int32))), .unset, .unset, .unset, .unset, .unset, .unset, .unset, .unset, .unset, .unset, .unset, .unset, .unset, .unset, .unset] [(.int (own_F1 p4 (6 : Int32)))]))
    refine own_istore X595 hx (hb hby at_66) (l' := #[.val (.int p0), .val (.int p1), .val (.int p2), .val (.int p3), .val (.int p4), .val (.int (1 : Int32)), .val (.int (0 : Int32)), .val (.int (own_F1 p4 (0 : Int32))), .val (.int (own_F1 p4 (1 : Int32))), .val (.int (own_F1 p4 (2 : Int32))), .val (.int (own_F1 p4 (3 : Int32))), .val (.int (own_F1 p4 (4 : Int32))), .val (.int (own_F1 p4 (5 : Int32))), .val (.int (own_F1 p4 (6 : Int32))), .unset, .unset, .unset, .unset, .unset, .unset, .unset, .unset, .unset, .unset, .unset, .unset, .unset, .unset]) rfl (q := 68) rfl ?_
    refine own_iload X595 hx (hb hby at_68) rfl (q := 70) rfl ?_
    refine own_bipush X595 hx (hb hby at_70) (z := 7) rfl (q := 72) rfl ?_
    obtain ⟨T596, Lc596, L596, X596, N596, hQ596, st596⟩ := own_shutS (val := some (.int (own_F1 p4 (7 : Int32)))) (Q := own_Q1 Z p4 (7 : Int32) h0 n0) (rc := 0) (rs := 0) N595 (fun _ _ _ q => ⟨q.1, q.2.1⟩) (Jvm.LawKit.callS X595 hx (y := (⟨"com/example/arcwise/arcwise/adaptation/HistoryRevisedPinLaw", "bit", "(II)Z"⟩ : MethodName)) hown (mvT hZ (hw _ (List.mem_of_getElem? (i := 0) rfl))) (mvT hZ (hw _ (List.mem_of_getElem? (i := 1) rfl))) (mvT hZ (hw _ (List.mem_of_getElem? (i := 2) rfl))) (mvT hZ (hw _ (List.mem_of_getElem? (i := 3) rfl))) (by decide) (backOf (W := 0) (own_rm1 l Z a0 hw [] p4 (7 : Int32) h0 n0 Z0 ) hZ (hw _ (List.mem_of_getElem? (i := 3) rfl)) (hw _ (List.mem_of_getElem? (i := 2) rfl)) (by decide) (by decide)) (g := (mkF m 72 #[.val (.int p0), .val (.int p1), .val (.int p2), .val (.int p3), .val (.int p4), .val (.int (1 : Int32)), .val (.int (0 : Int32)), .val (.int (own_F1 p4 (0 : Int32))), .val (.int (own_F1 p4 (1 : Int32))), .val (.int (own_F1 p4 (2 : Int32))), .val (.int (own_F1 p4 (3 : Int32))), .val (.int (own_F1 p4 (4 : Int32))), .val (.int (own_F1 p4 (5 : Int32))), .val (.int (own_F1 p4 (6 : Int32))), .unset, .unset, .unset, .unset, .unset, .unset, .unset, .unset, .unset, .unset, .unset, .unset, .unset, .unset] [(.int (7 : Int32)), (.int p4)])) rfl (by rw [hml]; rfl) (argsL := [(.int p4), (.int (7 : Int32))]) (rest := []) (lenOf own_pd3 rfl) rfl (by show 2 * 0 + _ ≤ _; exact Nat.le_of_eq rfl) (hb hby at_72) (fun _ _ => ⟨rfl, e595, (by decide : 0 + 0 ≤ _), (by decide : 0 + 0 ≤ _)⟩))
    obtain ⟨-, -, e596⟩ := hQ596
    refine own_back st596 ?_
    show own_End p e below s _ _ _ (T596.setTop (mkF m 75 #[.val (.int p0), .val (.int p1), .val (.int p2), .val (.int p3), .val (.int p4), .val (.int (1 : Int32)), .val (.int (0 : Int32)), .val (.int (own_F1 p4 (0 : Int32))), .val (.int (own_F1 p4 (1 : Int32))), .val (.int (own_F1 p4 (2 : Int32))), .val (.int (own_F1 p4 (3 : Int32))), .val (.int (own_F1 p4 (4 : Int32))), .val (.int (own_F1 p4 (5 : Int32))), .val (.int (own_F1 p4 (6 : Int32))), .unset, .unset, .unset, .unset, .unset, .unset, .unset, .unset, .unset, .unset, .unset, .unset, .unset, .unset] [(.int (own_F1 p4 (7 : Int32)))]))
    refine own_istore X596 hx (hb hby at_75) (l' := #[.val (.int p0), .val (.int p1), .val (.int p2), .val (.int p3), .val (.int p4), .val (.int (1 : Int32)), .val (.int (0 : Int32)), .val (.int (own_F1 p4 (0 : Int32))), .val (.int (own_F1 p4 (1 : Int32))), .val (.int (own_F1 p4 (2 : Int32))), .val (.int (own_F1 p4 (3 : Int32))), .val (.int (own_F1 p4 (4 : Int32))), .val (.int (own_F1 p4 (5 : Int32))), .val (.int (own_F1 p4 (6 : Int32))), .val (.int (own_F1 p4 (7 : Int32))), .unset, .unset, .unset, .unset, .unset, .unset, .unset, .unset, .unset, .unset, .unset, .unset, .unset]) rfl (q := 77) rfl ?_
    refine own_iload X596 hx (hb hby at_77) rfl (q := 79) rfl ?_
    refine own_bipush X596 hx (hb hby at_79) (z := 8) rfl (q := 81) rfl ?_
    obtain ⟨T597, Lc597, L597, X597, N597, hQ597, st597⟩ := own_shutS (val := some (.int (own_F1 p4 (8 : Int32)))) (Q := own_Q1 Z p4 (8 : Int32) h0 n0) (rc := 0) (rs := 0) N596 (fun _ _ _ q => ⟨q.1, q.2.1⟩) (Jvm.LawKit.callS X596 hx (y := (⟨"com/example/arcwise/arcwise/adaptation/HistoryRevisedPinLaw", "bit", "(II)Z"⟩ : MethodName)) hown (mvT hZ (hw _ (List.mem_of_getElem? (i := 0) rfl))) (mvT hZ (hw _ (List.mem_of_getElem? (i := 1) rfl))) (mvT hZ (hw _ (List.mem_of_getElem? (i := 2) rfl))) (mvT hZ (hw _ (List.mem_of_getElem? (i := 3) rfl))) (by decide) (backOf (W := 0) (own_rm1 l Z a0 hw [] p4 (8 : Int32) h0 n0 Z0 ) hZ (hw _ (List.mem_of_getElem? (i := 3) rfl)) (hw _ (List.mem_of_getElem? (i := 2) rfl)) (by decide) (by decide)) (g := (mkF m 81 #[.val (.int p0), .val (.int p1), .val (.int p2), .val (.int p3), .val (.int p4), .val (.int (1 : Int32)), .val (.int (0 : Int32)), .val (.int (own_F1 p4 (0 : Int32))), .val (.int (own_F1 p4 (1 : Int32))), .val (.int (own_F1 p4 (2 : Int32))), .val (.int (own_F1 p4 (3 : Int32))), .val (.int (own_F1 p4 (4 : Int32))), .val (.int (own_F1 p4 (5 : Int32))), .val (.int (own_F1 p4 (6 : Int32))), .val (.int (own_F1 p4 (7 : Int32))), .unset, .unset, .unset, .unset, .unset, .unset, .unset, .unset, .unset, .unset, .unset, .unset, .unset] [(.int (8 : Int32)), (.int p4)])) rfl (by rw [hml]; rfl) (argsL := [(.int p4), (.int (8 : Int32))]) (rest := []) (lenOf own_pd3 rfl) rfl (by show 2 * 0 + _ ≤ _; exact Nat.le_of_eq rfl) (hb hby at_81) (fun _ _ => ⟨rfl, e596, (by decide : 0 + 0 ≤ _), (by decide : 0 + 0 ≤ _)⟩))
    obtain ⟨-, -, e597⟩ := hQ597
    refine own_back st597 ?_
    show own_End p e below s _ _ _ (T597.setTop (mkF m 84 #[.val (.int p0), .val (.int p1), .val (.int p2), .val (.int p3), .val (.int p4), .val (.int (1 : Int32)), .val (.int (0 : Int32)), .val (.int (own_F1 p4 (0 : Int32))), .val (.int (own_F1 p4 (1 : Int32))), .val (.int (own_F1 p4 (2 : Int32))), .val (.int (own_F1 p4 (3 : Int32))), .val (.int (own_F1 p4 (4 : Int32))), .val (.int (own_F1 p4 (5 : Int32))), .val (.int (own_F1 p4 (6 : Int32))), .val (.int (own_F1 p4 (7 : Int32))), .unset, .unset, .unset, .unset, .unset, .unset, .unset, .unset, .unset, .unset, .unset, .unset, .unset] [(.int (own_F1 p4 (8 : Int32)))]))
    refine own_istore X597 hx (hb hby at_84) (l' := #[.val (.int p0), .val (.int p1), .val (.int p2), .val (.int p3), .val (.int p4), .val (.int (1 : Int32)), .val (.int (0 : Int32)), .val (.int (own_F1 p4 (0 : Int32))), .val (.int (own_F1 p4 (1 : Int32))), .val (.int (own_F1 p4 (2 : Int32))), .val (.int (own_F1 p4 (3 : Int32))), .val (.int (own_F1 p4 (4 : Int32))), .val (.int (own_F1 p4 (5 : Int32))), .val (.int (own_F1 p4 (6 : Int32))), .val (.int (own_F1 p4 (7 : Int32))), .val (.int (own_F1 p4 (8 : Int32))), .unset, .unset, .unset, .unset, .unset, .unset, .unset, .unset, .unset, .unset, .unset, .unset]) rfl (q := 86) rfl ?_
    obtain ⟨T598, h598, X598, e598, E598, A598, D598, -, st598⟩ := newO X597 hx hZ hown (hw _ (List.mem_of_getElem? (i := 4) rfl)) (hw _ (List.mem_of_getElem? (i := 5) rfl)) (hw _ (List.mem_of_getElem? (i := 6) rfl)) e597 (g := (mkF m 86 #[.val (.int p0), .val (.int p1), .val (.int p2), .val (.int p3), .val (.int p4), .val (.int (1 : Int32)), .val (.int (0 : Int32)), .val (.int (own_F1 p4 (0 : Int32))), .val (.int (own_F1 p4 (1 : Int32))), .val (.int (own_F1 p4 (2 : Int32))), .val (.int (own_F1 p4 (3 : Int32))), .val (.int (own_F1 p4 (4 : Int32))), .val (.int (own_F1 p4 (5 : Int32))), .val (.int (own_F1 p4 (6 : Int32))), .val (.int (own_F1 p4 (7 : Int32))), .val (.int (own_F1 p4 (8 : Int32))), .unset, .unset, .unset, .unset, .unset, .unset, .unset, .unset, .unset, .unset, .unset, .unset] [])) rfl (hb hby at_86) (by decide) (by decide)
    obtain ⟨b598, g598⟩ : ∃ z, z = h0.size := ⟨_, rfl⟩
    have g_b598 : n0 ≤ b598 := Nat.le_trans Z0 (Nat.le_of_eq g598.symm)
    have Z599 := Nat.le_trans Z0 E598.1
    rw [← g598] at A598 D598 st598
    have F_b598_revisions : Fld Z h598 b598 "com/example/arcwise/arcwise/adaptation/History" "revisions" "[J" .null := D598 (Or.inr (hw _ (List.mem_of_getElem? (i := 15) rfl))) (ty := (.array .long)) (by decide)
    have F_b598_lastWipeOut : Fld Z h598 b598 "com/example/arcwise/arcwise/adaptation/History" "lastWipeOut" "[J" .null := D598 (Or.inr (hw _ (List.mem_of_getElem? (i := 17) rfl))) (ty := (.array .long)) (by decide)
    have F_b598_lastRemoval : Fld Z h598 b598 "com/example/arcwise/arcwise/adaptation/History" "lastRemoval" "[J" .null := D598 (Or.inr (hw _ (List.mem_of_getElem? (i := 19) rfl))) (ty := (.array .long)) (by decide)
    have F_b598_lastStrongRemoval : Fld Z h598 b598 "com/example/arcwise/arcwise/adaptation/History" "lastStrongRemoval" "[J" .null := D598 (Or.inr (hw _ (List.mem_of_getElem? (i := 21) rfl))) (ty := (.array .long)) (by decide)
    have F_b598_lastPosition : Fld Z h598 b598 "com/example/arcwise/arcwise/adaptation/History" "lastPosition" "[I" .null := D598 (Or.inr (hw _ (List.mem_of_getElem? (i := 24) rfl))) (ty := (.array .int)) (by decide)
    refine own_back st598 ?_
    show own_End p e below s _ _ _ (T598.setTop (mkF m 89 #[.val (.int p0), .val (.int p1), .val (.int p2), .val (.int p3), .val (.int p4), .val (.int (1 : Int32)), .val (.int (0 : Int32)), .val (.int (own_F1 p4 (0 : Int32))), .val (.int (own_F1 p4 (1 : Int32))), .val (.int (own_F1 p4 (2 : Int32))), .val (.int (own_F1 p4 (3 : Int32))), .val (.int (own_F1 p4 (4 : Int32))), .val (.int (own_F1 p4 (5 : Int32))), .val (.int (own_F1 p4 (6 : Int32))), .val (.int (own_F1 p4 (7 : Int32))), .val (.int (own_F1 p4 (8 : Int32))), .unset, .unset, .unset, .unset, .unset, .unset, .unset, .unset, .unset, .unset, .unset, .unset] [(.ref b598)]))
    refine own_dup X598 hx (hb hby at_89) rfl (q := 90) rfl ?_
    refine own_iconst X598 hx (hb hby at_90) (z := 2) rfl (q := 91) rfl ?_
    obtain ⟨T600, Lc600, L600, X600, N600, hQ600, st600⟩ := own_shutV (val := none) (Q := own_Q2 Z b598 .null .null .null .null .null h598 n0) (rc := 5) (rs := 10) N597 (fun _ _ _ q => ⟨q.1, q.2.1⟩) (X598.specialBack hx (y := (⟨"com/example/arcwise/arcwise/adaptation/History", "<init>", "(I)V"⟩ : MethodName)) rfl hown (mvT hZ (hw _ (List.mem_of_getElem? (i := 7) rfl))) (mvT hZ (hw _ (List.mem_of_getElem? (i := 8) rfl))) (mvT hZ (hw _ (List.mem_of_getElem? (i := 9) rfl))) (by decide) (backOf (W := 1) (own_rm2 l Z a0 hw [] b598 .null .null .null .null .null h598 n0 Z599 A598 F_b598_revisions F_b598_lastWipeOut F_b598_lastRemoval F_b598_lastStrongRemoval F_b598_lastPosition g_b598) hZ (hw _ (List.mem_of_getElem? (i := 9) rfl)) (hw _ (List.mem_of_getElem? (i := 6) rfl)) (by decide) (by decide)) (g := (mkF m 91 #[.val (.int p0), .val (.int p1), .val (.int p2), .val (.int p3), .val (.int p4), .val (.int (1 : Int32)), .val (.int (0 : Int32)), .val (.int (own_F1 p4 (0 : Int32))), .val (.int (own_F1 p4 (1 : Int32))), .val (.int (own_F1 p4 (2 : Int32))), .val (.int (own_F1 p4 (3 : Int32))), .val (.int (own_F1 p4 (4 : Int32))), .val (.int (own_F1 p4 (5 : Int32))), .val (.int (own_F1 p4 (6 : Int32))), .val (.int (own_F1 p4 (7 : Int32))), .val (.int (own_F1 p4 (8 : Int32))), .unset, .unset, .unset, .unset, .unset, .unset, .unset, .unset, .unset, .unset, .unset, .unset] [(.int (2 : Int32)), (.ref b598), (.ref b598)])) rfl (by rw [hml]; rfl) (Steps.refl _) (a := b598) (argsL := [(.int (2 : Int32))]) (rest := [(.ref b598)]) (lenOf own_pd4 rfl) rfl (by show 2 * 0 + _ ≤ _; exact Nat.le_of_eq rfl) (hb hby at_91) (fun _ _ => ⟨rfl, e598, (by decide : 1 + 5 ≤ _), (by decide : 5 + 10 ≤ _)⟩))
    obtain ⟨-, -, K600, b600_0, b600_1, b600_2, b600_3, b600_4, k600_0, k600_1, k600_2, k600_3, k600_4, sb600_0, sb600_1, sb600_2, sb600_3, sb600_4, ne_b600_0_b600_1, ne_b600_0_b600_2, ne_b600_0_b600_3, ne_b600_0_b600_4, ne_b600_1_b600_2, ne_b600_1_b600_3, ne_b600_1_b600_4, ne_b600_2_b600_3, ne_b600_2_b600_4, ne_b600_3_b600_4, Q600_0, Q600_1, Q600_2, Q600_3, Q600_4, Q600_5, Q600_6, Q600_7, Q600_8, Q600_9, Q600_10⟩ := hQ600
    have ne_b598_b600_0 : b598 ≠ b600_0 := Nat.ne_of_lt (Nat.lt_of_lt_of_le A598.lt sb600_0)
    have g_b600_0 : n0 ≤ b600_0 := Nat.le_trans Z599 sb600_0
    have ne_b598_b600_1 : b598 ≠ b600_1 := Nat.ne_of_lt (Nat.lt_of_lt_of_le A598.lt sb600_1)
    have g_b600_1 : n0 ≤ b600_1 := Nat.le_trans Z599 sb600_1
    have ne_b598_b600_2 : b598 ≠ b600_2 := Nat.ne_of_lt (Nat.lt_of_lt_of_le A598.lt sb600_2)
    have g_b600_2 : n0 ≤ b600_2 := Nat.le_trans Z599 sb600_2
    have ne_b598_b600_3 : b598 ≠ b600_3 := Nat.ne_of_lt (Nat.lt_of_lt_of_le A598.lt sb600_3)
    have g_b600_3 : n0 ≤ b600_3 := Nat.le_trans Z599 sb600_3
    have ne_b598_b600_4 : b598 ≠ b600_4 := Nat.ne_of_lt (Nat.lt_of_lt_of_le A598.lt sb600_4)
    have g_b600_4 : n0 ≤ b600_4 := Nat.le_trans Z599 sb600_4
    have A598_601 := A598.keep K600
    have Z602 := Nat.le_trans Z599 K600.1
    refine own_via st600 ?_
    show own_End p e below s _ _ _ (T600.setTop (mkF m 94 #[.val (.int p0), .val (.int p1), .val (.int p2), .val (.int p3), .val (.int p4), .val (.int (1 : Int32)), .val (.int (0 : Int32)), .val (.int (own_F1 p4 (0 : Int32))), .val (.int (own_F1 p4 (1 : Int32))), .val (.int (own_F1 p4 (2 : Int32))), .val (.int (own_F1 p4 (3 : Int32))), .val (.int (own_F1 p4 (4 : Int32))), .val (.int (own_F1 p4 (5 : Int32))), .val (.int (own_F1 p4 (6 : Int32))), .val (.int (own_F1 p4 (7 : Int32))), .val (.int (own_F1 p4 (8 : Int32))), .unset, .unset, .unset, .unset, .unset, .unset, .unset, .unset, .unset, .unset, .unset, .unset] [(.ref b598)]))
    refine own_astore X600 hx (hb hby at_94) rfl (l' := #[.val (.int p0), .val (.int p1), .val (.int p2), .val (.int p3), .val (.int p4), .val (.int (1 : Int32)), .val (.int (0 : Int32)), .val (.int (own_F1 p4 (0 : Int32))), .val (.int (own_F1 p4 (1 : Int32))), .val (.int (own_F1 p4 (2 : Int32))), .val (.int (own_F1 p4 (3 : Int32))), .val (.int (own_F1 p4 (4 : Int32))), .val (.int (own_F1 p4 (5 : Int32))), .val (.int (own_F1 p4 (6 : Int32))), .val (.int (own_F1 p4 (7 : Int32))), .val (.int (own_F1 p4 (8 : Int32))), .val (.ref b598), .unset, .unset, .unset, .unset, .unset, .unset, .unset, .unset, .unset, .unset, .unset]) rfl (q := 96) rfl ?_
    refine own_aload X600 hx (hb hby at_96) rfl rfl (q := 98) rfl ?_
    refine own_iload X600 hx (hb hby at_98) rfl (q := 100) rfl ?_
    refine own_iloadN X600 hx (hb hby at_100) rfl (q := 101) rfl ?_
    refine own_iload X600 hx (hb hby at_101) rfl (q := 103) rfl ?_
    refine own_iload X600 hx (hb hby at_103) rfl (q := 105) rfl ?_
    refine own_iload X600 hx (hb hby at_105) rfl (q := 107) rfl ?_
    obtain ⟨cq603, kq603, q603a, q603b, q603c⟩ := isOf hZ rfl Q600_0
    obtain ⟨T603, Lc603, L603, X603, N603, hQ603, st603⟩ := own_shutV (val := none) (Q := own_Q6_1 Z b598 p1 (own_F1 p4 (0 : Int32)) (own_F1 p4 (1 : Int32)) (own_F1 p4 (2 : Int32)) b600_0 b600_1 b600_2 b600_3 b600_4 k600_0 (0 : Int64) (0 : Int64) k600_1 (-1 : Int64) (-1 : Int64) k600_2 (-1 : Int64) (-1 : Int64) k600_3 (-1 : Int64) (-1 : Int64) k600_4 (-1 : Int32) (-1 : Int32) T600.heap n0) (rc := 0) (rs := 0) N600 (fun _ _ _ q => ⟨q.1, q.2.1⟩) (X600.virtualBack hx (y := (⟨"com/example/arcwise/arcwise/adaptation/History", "revised", "(IIZZZ)V"⟩ : MethodName)) (z := (⟨"com/example/arcwise/arcwise/adaptation/History", "revised", "(IIZZZ)V"⟩ : MethodName)) hown (mvT hZ (hw _ (List.mem_of_getElem? (i := 33) rfl))) (mvT hZ (hw _ (List.mem_of_getElem? (i := 34) rfl))) (notFace_of_selects (args := #[]) (mvT hZ (hw _ (List.mem_of_getElem? (i := 36) rfl)))) (mvT hZ (hw _ (List.mem_of_getElem? (i := 36) rfl))) (mvT hZ (hw _ (List.mem_of_getElem? (i := 35) rfl))) (by decide) (backOf (W := 0) (own_rm6_1 l Z a0 hw [] b598 p1 (own_F1 p4 (0 : Int32)) (own_F1 p4 (1 : Int32)) (own_F1 p4 (2 : Int32)) b600_0 b600_1 b600_2 b600_3 b600_4 k600_0 (0 : Int64) (0 : Int64) k600_1 (-1 : Int64) (-1 : Int64) k600_2 (-1 : Int64) (-1 : Int64) k600_3 (-1 : Int64) (-1 : Int64) k600_4 (-1 : Int32) (-1 : Int32) T600.heap n0 Z602 Q600_0 Q600_1 Q600_2 Q600_3 Q600_4 Q600_5 Q600_6 Q600_7 Q600_8 Q600_9 Q600_10 ne_b598_b600_0 ne_b598_b600_1 ne_b598_b600_2 ne_b598_b600_3 ne_b598_b600_4 ne_b600_0_b600_1 ne_b600_0_b600_2 ne_b600_0_b600_3 ne_b600_0_b600_4 ne_b600_1_b600_2 ne_b600_1_b600_3 ne_b600_1_b600_4 ne_b600_2_b600_3 ne_b600_2_b600_4 ne_b600_3_b600_4 g_b600_0 g_b600_1 g_b600_2 g_b600_3 g_b600_4) hZ (hw _ (List.mem_of_getElem? (i := 37) rfl)) (hw _ (List.mem_of_getElem? (i := 6) rfl)) (by decide) (by decide)) q603a q603c (g := (mkF m 107 #[.val (.int p0), .val (.int p1), .val (.int p2), .val (.int p3), .val (.int p4), .val (.int (1 : Int32)), .val (.int (0 : Int32)), .val (.int (own_F1 p4 (0 : Int32))), .val (.int (own_F1 p4 (1 : Int32))), .val (.int (own_F1 p4 (2 : Int32))), .val (.int (own_F1 p4 (3 : Int32))), .val (.int (own_F1 p4 (4 : Int32))), .val (.int (own_F1 p4 (5 : Int32))), .val (.int (own_F1 p4 (6 : Int32))), .val (.int (own_F1 p4 (7 : Int32))), .val (.int (own_F1 p4 (8 : Int32))), .val (.ref b598), .unset, .unset, .unset, .unset, .unset, .unset, .unset, .unset, .unset, .unset, .unset] [(.int (own_F1 p4 (2 : Int32))), (.int (own_F1 p4 (1 : Int32))), (.int (own_F1 p4 (0 : Int32))), (.int p1), (.int (1 : Int32)), (.ref b598)])) rfl (by rw [hml]; rfl) (Steps.refl _) (argsL := [(.int (1 : Int32)), (.int p1), (.int (own_F1 p4 (0 : Int32))), (.int (own_F1 p4 (1 : Int32))), (.int (own_F1 p4 (2 : Int32)))]) (rest := []) (lenOf own_pd5 rfl) rfl (by show 2 * 0 + _ ≤ _; exact Nat.le_of_eq rfl) (hb hby at_107) (fun _ _ => ⟨rfl, rfl, (by decide : 6 + 0 ≤ _), (by decide : 15 + 0 ≤ _)⟩))
    obtain ⟨-, -, K603, Q603_0, Q603_1, Q603_2, Q603_3, Q603_4⟩ := hQ603
    have Q600_604 := Q600_0.keep K603
    have Q600_605 := Q600_1.keep K603 (ninS ne_b598_b600_0 (ninS ne_b598_b600_1 (ninS ne_b598_b600_2 (ninS ne_b598_b600_3 (ninS ne_b598_b600_4 nin0)))))
    have Q600_606 := Q600_2.keep K603 (ninS ne_b598_b600_0 (ninS ne_b598_b600_1 (ninS ne_b598_b600_2 (ninS ne_b598_b600_3 (ninS ne_b598_b600_4 nin0)))))
    have Q600_607 := Q600_3.keep K603 (ninS ne_b598_b600_0 (ninS ne_b598_b600_1 (ninS ne_b598_b600_2 (ninS ne_b598_b600_3 (ninS ne_b598_b600_4 nin0)))))
    have Q600_608 := Q600_4.keep K603 (ninS ne_b598_b600_0 (ninS ne_b598_b600_1 (ninS ne_b598_b600_2 (ninS ne_b598_b600_3 (ninS ne_b598_b600_4 nin0)))))
    have Q600_609 := Q600_5.keep K603 (ninS ne_b598_b600_0 (ninS ne_b598_b600_1 (ninS ne_b598_b600_2 (ninS ne_b598_b600_3 (ninS ne_b598_b600_4 nin0)))))
    have Z610 := Nat.le_trans Z602 K603.1
    refine own_via st603 ?_
    show own_End p e below s _ _ _ (T603.setTop (mkF m 110 #[.val (.int p0), .val (.int p1), .val (.int p2), .val (.int p3), .val (.int p4), .val (.int (1 : Int32)), .val (.int (0 : Int32)), .val (.int (own_F1 p4 (0 : Int32))), .val (.int (own_F1 p4 (1 : Int32))), .val (.int (own_F1 p4 (2 : Int32))), .val (.int (own_F1 p4 (3 : Int32))), .val (.int (own_F1 p4 (4 : Int32))), .val (.int (own_F1 p4 (5 : Int32))), .val (.int (own_F1 p4 (6 : Int32))), .val (.int (own_F1 p4 (7 : Int32))), .val (.int (own_F1 p4 (8 : Int32))), .val (.ref b598), .unset, .unset, .unset, .unset, .unset, .unset, .unset, .unset, .unset, .unset, .unset] []))
    refine own_aload X603 hx (hb hby at_110) rfl rfl (q := 112) rfl ?_
    refine own_iload X603 hx (hb hby at_112) rfl (q := 114) rfl ?_
    refine own_iloadN X603 hx (hb hby at_114) rfl (q := 115) rfl ?_
    refine own_iload X603 hx (hb hby at_115) rfl (q := 117) rfl ?_
    refine own_iload X603 hx (hb hby at_117) rfl (q := 119) rfl ?_
    refine own_iload X603 hx (hb hby at_119) rfl (q := 121) rfl ?_
    obtain ⟨cq611, kq611, q611a, q611b, q611c⟩ := isOf hZ rfl Q600_604
    obtain ⟨T611, Lc611, L611, X611, N611, hQ611, st611⟩ := own_shutV (val := none) (Q := own_Q6_1 Z b598 p2 (own_F1 p4 (3 : Int32)) (own_F1 p4 (4 : Int32)) (own_F1 p4 (5 : Int32)) b600_0 b600_1 b600_2 b600_3 b600_4 k600_0 (0 : Int64) ((0 : Int64) + (1 : Int64)) k600_1 (-1 : Int64) (own_G6_1_w_o0_lastWipeOut_1 (own_F1 p4 (1 : Int32)) (0 : Int64) (-1 : Int64)) k600_2 (-1 : Int64) (own_G6_1_w_o0_lastRemoval_1 (own_F1 p4 (0 : Int32)) (0 : Int64) (-1 : Int64)) k600_3 (-1 : Int64) (own_G6_1_w_o0_lastStrongRemoval_1 (own_F1 p4 (1 : Int32)) (own_F1 p4 (2 : Int32)) (0 : Int64) (-1 : Int64)) k600_4 (-1 : Int32) p1 T603.heap n0) (rc := 0) (rs := 0) N603 (fun _ _ _ q => ⟨q.1, q.2.1⟩) (X603.virtualBack hx (y := (⟨"com/example/arcwise/arcwise/adaptation/History", "revised", "(IIZZZ)V"⟩ : MethodName)) (z := (⟨"com/example/arcwise/arcwise/adaptation/History", "revised", "(IIZZZ)V"⟩ : MethodName)) hown (mvT hZ (hw _ (List.mem_of_getElem? (i := 33) rfl))) (mvT hZ (hw _ (List.mem_of_getElem? (i := 34) rfl))) (notFace_of_selects (args := #[]) (mvT hZ (hw _ (List.mem_of_getElem? (i := 36) rfl)))) (mvT hZ (hw _ (List.mem_of_getElem? (i := 36) rfl))) (mvT hZ (hw _ (List.mem_of_getElem? (i := 35) rfl))) (by decide) (backOf (W := 0) (own_rm6_1 l Z a0 hw [] b598 p2 (own_F1 p4 (3 : Int32)) (own_F1 p4 (4 : Int32)) (own_F1 p4 (5 : Int32)) b600_0 b600_1 b600_2 b600_3 b600_4 k600_0 (0 : Int64) ((0 : Int64) + (1 : Int64)) k600_1 (-1 : Int64) (own_G6_1_w_o0_lastWipeOut_1 (own_F1 p4 (1 : Int32)) (0 : Int64) (-1 : Int64)) k600_2 (-1 : Int64) (own_G6_1_w_o0_lastRemoval_1 (own_F1 p4 (0 : Int32)) (0 : Int64) (-1 : Int64)) k600_3 (-1 : Int64) (own_G6_1_w_o0_lastStrongRemoval_1 (own_F1 p4 (1 : Int32)) (own_F1 p4 (2 : Int32)) (0 : Int64) (-1 : Int64)) k600_4 (-1 : Int32) p1 T603.heap n0 Z610 Q600_604 Q600_605 Q600_606 Q600_607 Q600_608 Q600_609 Q603_0 Q603_1 Q603_2 Q603_3 Q603_4 ne_b598_b600_0 ne_b598_b600_1 ne_b598_b600_2 ne_b598_b600_3 ne_b598_b600_4 ne_b600_0_b600_1 ne_b600_0_b600_2 ne_b600_0_b600_3 ne_b600_0_b600_4 ne_b600_1_b600_2 ne_b600_1_b600_3 ne_b600_1_b600_4 ne_b600_2_b600_3 ne_b600_2_b600_4 ne_b600_3_b600_4 g_b600_0 g_b600_1 g_b600_2 g_b600_3 g_b600_4) hZ (hw _ (List.mem_of_getElem? (i := 37) rfl)) (hw _ (List.mem_of_getElem? (i := 6) rfl)) (by decide) (by decide)) q611a q611c (g := (mkF m 121 #[.val (.int p0), .val (.int p1), .val (.int p2), .val (.int p3), .val (.int p4), .val (.int (1 : Int32)), .val (.int (0 : Int32)), .val (.int (own_F1 p4 (0 : Int32))), .val (.int (own_F1 p4 (1 : Int32))), .val (.int (own_F1 p4 (2 : Int32))), .val (.int (own_F1 p4 (3 : Int32))), .val (.int (own_F1 p4 (4 : Int32))), .val (.int (own_F1 p4 (5 : Int32))), .val (.int (own_F1 p4 (6 : Int32))), .val (.int (own_F1 p4 (7 : Int32))), .val (.int (own_F1 p4 (8 : Int32))), .val (.ref b598), .unset, .unset, .unset, .unset, .unset, .unset, .unset, .unset, .unset, .unset, .unset] [(.int (own_F1 p4 (5 : Int32))), (.int (own_F1 p4 (4 : Int32))), (.int (own_F1 p4 (3 : Int32))), (.int p2), (.int (1 : Int32)), (.ref b598)])) rfl (by rw [hml]; rfl) (Steps.refl _) (argsL := [(.int (1 : Int32)), (.int p2), (.int (own_F1 p4 (3 : Int32))), (.int (own_F1 p4 (4 : Int32))), (.int (own_F1 p4 (5 : Int32)))]) (rest := []) (lenOf own_pd5 rfl) rfl (by show 2 * 0 + _ ≤ _; exact Nat.le_of_eq rfl) (hb hby at_121) (fun _ _ => ⟨rfl, rfl, (by decide : 6 + 0 ≤ _), (by decide : 15 + 0 ≤ _)⟩))
    obtain ⟨-, -, K611, Q611_0, Q611_1, Q611_2, Q611_3, Q611_4⟩ := hQ611
    have Q600_612 := Q600_604.keep K611
    have Q600_613 := Q600_605.keep K611 (ninS ne_b598_b600_0 (ninS ne_b598_b600_1 (ninS ne_b598_b600_2 (ninS ne_b598_b600_3 (ninS ne_b598_b600_4 nin0)))))
    have Q600_614 := Q600_606.keep K611 (ninS ne_b598_b600_0 (ninS ne_b598_b600_1 (ninS ne_b598_b600_2 (ninS ne_b598_b600_3 (ninS ne_b598_b600_4 nin0)))))
    have Q600_615 := Q600_607.keep K611 (ninS ne_b598_b600_0 (ninS ne_b598_b600_1 (ninS ne_b598_b600_2 (ninS ne_b598_b600_3 (ninS ne_b598_b600_4 nin0)))))
    have Q600_616 := Q600_608.keep K611 (ninS ne_b598_b600_0 (ninS ne_b598_b600_1 (ninS ne_b598_b600_2 (ninS ne_b598_b600_3 (ninS ne_b598_b600_4 nin0)))))
    have Q600_617 := Q600_609.keep K611 (ninS ne_b598_b600_0 (ninS ne_b598_b600_1 (ninS ne_b598_b600_2 (ninS ne_b598_b600_3 (ninS ne_b598_b600_4 nin0)))))
    have Z618 := Nat.le_trans Z610 K611.1
    refine own_via st611 ?_
    show own_End p e below s _ _ _ (T611.setTop (mkF m 124 #[.val (.int p0), .val (.int p1), .val (.int p2), .val (.int p3), .val (.int p4), .val (.int (1 : Int32)), .val (.int (0 : Int32)), .val (.int (own_F1 p4 (0 : Int32))), .val (.int (own_F1 p4 (1 : Int32))), .val (.int (own_F1 p4 (2 : Int32))), .val (.int (own_F1 p4 (3 : Int32))), .val (.int (own_F1 p4 (4 : Int32))), .val (.int (own_F1 p4 (5 : Int32))), .val (.int (own_F1 p4 (6 : Int32))), .val (.int (own_F1 p4 (7 : Int32))), .val (.int (own_F1 p4 (8 : Int32))), .val (.ref b598), .unset, .unset, .unset, .unset, .unset, .unset, .unset, .unset, .unset, .unset, .unset] []))
    refine own_aload X611 hx (hb hby at_124) rfl rfl (q := 126) rfl ?_
    refine own_iload X611 hx (hb hby at_126) rfl (q := 128) rfl ?_
    refine own_iloadN X611 hx (hb hby at_128) rfl (q := 129) rfl ?_
    refine own_iload X611 hx (hb hby at_129) rfl (q := 131) rfl ?_
    refine own_iload X611 hx (hb hby at_131) rfl (q := 133) rfl ?_
    refine own_iload X611 hx (hb hby at_133) rfl (q := 135) rfl ?_
    obtain ⟨cq619, kq619, q619a, q619b, q619c⟩ := isOf hZ rfl Q600_612
    obtain ⟨T619, Lc619, L619, X619, N619, hQ619, st619⟩ := own_shutV (val := none) (Q := own_Q6_0 Z b598 p3 (own_F1 p4 (6 : Int32)) (own_F1 p4 (7 : Int32)) (own_F1 p4 (8 : Int32)) b600_0 b600_1 b600_2 b600_3 b600_4 k600_0 (0 : Int64) (((0 : Int64) + (1 : Int64)) + (1 : Int64)) k600_1 (-1 : Int64) (own_G6_1_w_o0_lastWipeOut_1 (own_F1 p4 (4 : Int32)) ((0 : Int64) + (1 : Int64)) (own_G6_1_w_o0_lastWipeOut_1 (own_F1 p4 (1 : Int32)) (0 : Int64) (-1 : Int64))) k600_2 (-1 : Int64) (own_G6_1_w_o0_lastRemoval_1 (own_F1 p4 (3 : Int32)) ((0 : Int64) + (1 : Int64)) (own_G6_1_w_o0_lastRemoval_1 (own_F1 p4 (0 : Int32)) (0 : Int64) (-1 : Int64))) k600_3 (-1 : Int64) (own_G6_1_w_o0_lastStrongRemoval_1 (own_F1 p4 (4 : Int32)) (own_F1 p4 (5 : Int32)) ((0 : Int64) + (1 : Int64)) (own_G6_1_w_o0_lastStrongRemoval_1 (own_F1 p4 (1 : Int32)) (own_F1 p4 (2 : Int32)) (0 : Int64) (-1 : Int64))) k600_4 (-1 : Int32) p2 T611.heap n0) (rc := 0) (rs := 0) N611 (fun _ _ _ q => ⟨q.1, q.2.1⟩) (X611.virtualBack hx (y := (⟨"com/example/arcwise/arcwise/adaptation/History", "revised", "(IIZZZ)V"⟩ : MethodName)) (z := (⟨"com/example/arcwise/arcwise/adaptation/History", "revised", "(IIZZZ)V"⟩ : MethodName)) hown (mvT hZ (hw _ (List.mem_of_getElem? (i := 33) rfl))) (mvT hZ (hw _ (List.mem_of_getElem? (i := 34) rfl))) (notFace_of_selects (args := #[]) (mvT hZ (hw _ (List.mem_of_getElem? (i := 36) rfl)))) (mvT hZ (hw _ (List.mem_of_getElem? (i := 36) rfl))) (mvT hZ (hw _ (List.mem_of_getElem? (i := 35) rfl))) (by decide) (backOf (W := 0) (own_rm6_0 l Z a0 hw [] b598 p3 (own_F1 p4 (6 : Int32)) (own_F1 p4 (7 : Int32)) (own_F1 p4 (8 : Int32)) b600_0 b600_1 b600_2 b600_3 b600_4 k600_0 (0 : Int64) (((0 : Int64) + (1 : Int64)) + (1 : Int64)) k600_1 (-1 : Int64) (own_G6_1_w_o0_lastWipeOut_1 (own_F1 p4 (4 : Int32)) ((0 : Int64) + (1 : Int64)) (own_G6_1_w_o0_lastWipeOut_1 (own_F1 p4 (1 : Int32)) (0 : Int64) (-1 : Int64))) k600_2 (-1 : Int64) (own_G6_1_w_o0_lastRemoval_1 (own_F1 p4 (3 : Int32)) ((0 : Int64) + (1 : Int64)) (own_G6_1_w_o0_lastRemoval_1 (own_F1 p4 (0 : Int32)) (0 : Int64) (-1 : Int64))) k600_3 (-1 : Int64) (own_G6_1_w_o0_lastStrongRemoval_1 (own_F1 p4 (4 : Int32)) (own_F1 p4 (5 : Int32)) ((0 : Int64) + (1 : Int64)) (own_G6_1_w_o0_lastStrongRemoval_1 (own_F1 p4 (1 : Int32)) (own_F1 p4 (2 : Int32)) (0 : Int64) (-1 : Int64))) k600_4 (-1 : Int32) p2 T611.heap n0 Z618 Q600_612 Q600_613 Q600_614 Q600_615 Q600_616 Q600_617 Q611_0 Q611_1 Q611_2 Q611_3 Q611_4 ne_b598_b600_0 ne_b598_b600_1 ne_b598_b600_2 ne_b598_b600_3 ne_b598_b600_4 ne_b600_0_b600_1 ne_b600_0_b600_2 ne_b600_0_b600_3 ne_b600_0_b600_4 ne_b600_1_b600_2 ne_b600_1_b600_3 ne_b600_1_b600_4 ne_b600_2_b600_3 ne_b600_2_b600_4 ne_b600_3_b600_4 g_b600_0 g_b600_1 g_b600_2 g_b600_3 g_b600_4) hZ (hw _ (List.mem_of_getElem? (i := 37) rfl)) (hw _ (List.mem_of_getElem? (i := 6) rfl)) (by decide) (by decide)) q619a q619c (g := (mkF m 135 #[.val (.int p0), .val (.int p1), .val (.int p2), .val (.int p3), .val (.int p4), .val (.int (1 : Int32)), .val (.int (0 : Int32)), .val (.int (own_F1 p4 (0 : Int32))), .val (.int (own_F1 p4 (1 : Int32))), .val (.int (own_F1 p4 (2 : Int32))), .val (.int (own_F1 p4 (3 : Int32))), .val (.int (own_F1 p4 (4 : Int32))), .val (.int (own_F1 p4 (5 : Int32))), .val (.int (own_F1 p4 (6 : Int32))), .val (.int (own_F1 p4 (7 : Int32))), .val (.int (own_F1 p4 (8 : Int32))), .val (.ref b598), .unset, .unset, .unset, .unset, .unset, .unset, .unset, .unset, .unset, .unset, .unset] [(.int (own_F1 p4 (8 : Int32))), (.int (own_F1 p4 (7 : Int32))), (.int (own_F1 p4 (6 : Int32))), (.int p3), (.int (0 : Int32)), (.ref b598)])) rfl (by rw [hml]; rfl) (Steps.refl _) (argsL := [(.int (0 : Int32)), (.int p3), (.int (own_F1 p4 (6 : Int32))), (.int (own_F1 p4 (7 : Int32))), (.int (own_F1 p4 (8 : Int32)))]) (rest := []) (lenOf own_pd5 rfl) rfl (by show 2 * 0 + _ ≤ _; exact Nat.le_of_eq rfl) (hb hby at_135) (fun _ _ => ⟨rfl, rfl, (by decide : 6 + 0 ≤ _), (by decide : 15 + 0 ≤ _)⟩))
    obtain ⟨-, -, K619, Q619_0, Q619_1, Q619_2, Q619_3, Q619_4⟩ := hQ619
    have Q600_620 := Q600_612.keep K619
    have Q600_621 := Q600_613.keep K619 (ninS ne_b598_b600_0 (ninS ne_b598_b600_1 (ninS ne_b598_b600_2 (ninS ne_b598_b600_3 (ninS ne_b598_b600_4 nin0)))))
    have Q600_622 := Q600_614.keep K619 (ninS ne_b598_b600_0 (ninS ne_b598_b600_1 (ninS ne_b598_b600_2 (ninS ne_b598_b600_3 (ninS ne_b598_b600_4 nin0)))))
    have Q600_623 := Q600_615.keep K619 (ninS ne_b598_b600_0 (ninS ne_b598_b600_1 (ninS ne_b598_b600_2 (ninS ne_b598_b600_3 (ninS ne_b598_b600_4 nin0)))))
    have Q600_624 := Q600_616.keep K619 (ninS ne_b598_b600_0 (ninS ne_b598_b600_1 (ninS ne_b598_b600_2 (ninS ne_b598_b600_3 (ninS ne_b598_b600_4 nin0)))))
    have Q600_625 := Q600_617.keep K619 (ninS ne_b598_b600_0 (ninS ne_b598_b600_1 (ninS ne_b598_b600_2 (ninS ne_b598_b600_3 (ninS ne_b598_b600_4 nin0)))))
    have Z626 := Nat.le_trans Z618 K619.1
    refine own_via st619 ?_
    show own_End p e below s _ _ _ (T619.setTop (mkF m 138 #[.val (.int p0), .val (.int p1), .val (.int p2), .val (.int p3), .val (.int p4), .val (.int (1 : Int32)), .val (.int (0 : Int32)), .val (.int (own_F1 p4 (0 : Int32))), .val (.int (own_F1 p4 (1 : Int32))), .val (.int (own_F1 p4 (2 : Int32))), .val (.int (own_F1 p4 (3 : Int32))), .val (.int (own_F1 p4 (4 : Int32))), .val (.int (own_F1 p4 (5 : Int32))), .val (.int (own_F1 p4 (6 : Int32))), .val (.int (own_F1 p4 (7 : Int32))), .val (.int (own_F1 p4 (8 : Int32))), .val (.ref b598), .unset, .unset, .unset, .unset, .unset, .unset, .unset, .unset, .unset, .unset, .unset] []))
    refine own_iload X619 hx (hb hby at_138) rfl (q := 140) rfl ?_
    refine own_iload X619 hx (hb hby at_140) rfl (q := 142) rfl ?_
    obtain ⟨T627, Lc627, L627, X627, N627, hQ627, st627⟩ := own_shutS (val := some (.long (own_F7 (own_F1 p4 (3 : Int32)) (own_F1 p4 (0 : Int32))))) (Q := own_Q7 Z (own_F1 p4 (3 : Int32)) (own_F1 p4 (0 : Int32)) T619.heap n0) (rc := 0) (rs := 0) N619 (fun _ _ _ q => ⟨q.1, q.2.1⟩) (Jvm.LawKit.callS X619 hx (y := (⟨"com/example/arcwise/arcwise/adaptation/HistoryRevisedPinLaw", "expect", "(ZZ)J"⟩ : MethodName)) hown (mvT hZ (hw _ (List.mem_of_getElem? (i := 38) rfl))) (mvT hZ (hw _ (List.mem_of_getElem? (i := 39) rfl))) (mvT hZ (hw _ (List.mem_of_getElem? (i := 2) rfl))) (mvT hZ (hw _ (List.mem_of_getElem? (i := 40) rfl))) (by decide) (backOf (W := 0) (own_rm7 l Z a0 hw [] (own_F1 p4 (3 : Int32)) (own_F1 p4 (0 : Int32)) T619.heap n0 Z626 ) hZ (hw _ (List.mem_of_getElem? (i := 40) rfl)) (hw _ (List.mem_of_getElem? (i := 2) rfl)) (by decide) (by decide)) (g := (mkF m 142 #[.val (.int p0), .val (.int p1), .val (.int p2), .val (.int p3), .val (.int p4), .val (.int (1 : Int32)), .val (.int (0 : Int32)), .val (.int (own_F1 p4 (0 : Int32))), .val (.int (own_F1 p4 (1 : Int32))), .val (.int (own_F1 p4 (2 : Int32))), .val (.int (own_F1 p4 (3 : Int32))), .val (.int (own_F1 p4 (4 : Int32))), .val (.int (own_F1 p4 (5 : Int32))), .val (.int (own_F1 p4 (6 : Int32))), .val (.int (own_F1 p4 (7 : Int32))), .val (.int (own_F1 p4 (8 : Int32))), .val (.ref b598), .unset, .unset, .unset, .unset, .unset, .unset, .unset, .unset, .unset, .unset, .unset] [(.int (own_F1 p4 (0 : Int32))), (.int (own_F1 p4 (3 : Int32)))])) rfl (by rw [hml]; rfl) (argsL := [(.int (own_F1 p4 (3 : Int32))), (.int (own_F1 p4 (0 : Int32)))]) (rest := []) (lenOf own_pd6 rfl) rfl (by show 2 * 0 + _ ≤ _; exact Nat.le_of_eq rfl) (hb hby at_142) (fun _ _ => ⟨rfl, rfl, (by decide : 6 + 0 ≤ _), (by decide : 15 + 0 ≤ _)⟩))
    obtain ⟨-, -, e627⟩ := hQ627
    refine own_back st627 ?_
    show own_End p e below s _ _ _ (T627.setTop (mkF m 145 #[.val (.int p0), .val (.int p1), .val (.int p2), .val (.int p3), .val (.int p4), .val (.int (1 : Int32)), .val (.int (0 : Int32)), .val (.int (own_F1 p4 (0 : Int32))), .val (.int (own_F1 p4 (1 : Int32))), .val (.int (own_F1 p4 (2 : Int32))), .val (.int (own_F1 p4 (3 : Int32))), .val (.int (own_F1 p4 (4 : Int32))), .val (.int (own_F1 p4 (5 : Int32))), .val (.int (own_F1 p4 (6 : Int32))), .val (.int (own_F1 p4 (7 : Int32))), .val (.int (own_F1 p4 (8 : Int32))), .val (.ref b598), .unset, .unset, .unset, .unset, .unset, .unset, .unset, .unset, .unset, .unset, .unset] [(.long (own_F7 (own_F1 p4 (3 : Int32)) (own_F1 p4 (0 : Int32))))]))
    refine own_lstore X627 hx (hb hby at_145) (l' := #[.val (.int p0), .val (.int p1), .val (.int p2), .val (.int p3), .val (.int p4), .val (.int (1 : Int32)), .val (.int (0 : Int32)), .val (.int (own_F1 p4 (0 : Int32))), .val (.int (own_F1 p4 (1 : Int32))), .val (.int (own_F1 p4 (2 : Int32))), .val (.int (own_F1 p4 (3 : Int32))), .val (.int (own_F1 p4 (4 : Int32))), .val (.int (own_F1 p4 (5 : Int32))), .val (.int (own_F1 p4 (6 : Int32))), .val (.int (own_F1 p4 (7 : Int32))), .val (.int (own_F1 p4 (8 : Int32))), .val (.ref b598), .val (.long (own_F7 (own_F1 p4 (3 : Int32)) (own_F1 p4 (0 : Int32)))), .second, .unset, .unset, .unset, .unset, .unset, .unset, .unset, .unset, .unset]) rfl (q := 147) rfl ?_
    refine own_iload X627 hx (hb hby at_147) rfl (q := 149) rfl ?_
    refine own_iload X627 hx (hb hby at_149) rfl (q := 151) rfl ?_
    obtain ⟨T628, Lc628, L628, X628, N628, hQ628, st628⟩ := own_shutS (val := some (.long (own_F7 (own_F1 p4 (4 : Int32)) (own_F1 p4 (1 : Int32))))) (Q := own_Q7 Z (own_F1 p4 (4 : Int32)) (own_F1 p4 (1 : Int32)) T619.heap n0) (rc := 0) (rs := 0) N627 (fun _ _ _ q => ⟨q.1, q.2.1⟩) (Jvm.LawKit.callS X627 hx (y := (⟨"com/example/arcwise/arcwise/adaptation/HistoryRevisedPinLaw", "expect", "(ZZ)J"⟩ : MethodName)) hown (mvT hZ (hw _ (List.mem_of_getElem? (i := 38) rfl))) (mvT hZ (hw _ (List.mem_of_getElem? (i := 39) rfl))) (mvT hZ (hw _ (List.mem_of_getElem? (i := 2) rfl))) (mvT hZ (hw _ (List.mem_of_getElem? (i := 40) rfl))) (by decide) (backOf (W := 0) (own_rm7 l Z a0 hw [] (own_F1 p4 (4 : Int32)) (own_F1 p4 (1 : Int32)) T619.heap n0 Z626 ) hZ (hw _ (List.mem_of_getElem? (i := 40) rfl)) (hw _ (List.mem_of_getElem? (i := 2) rfl)) (by decide) (by decide)) (g := (mkF m 151 #[.val (.int p0), .val (.int p1), .val (.int p2), .val (.int p3), .val (.int p4), .val (.int (1 : Int32)), .val (.int (0 : Int32)), .val (.int (own_F1 p4 (0 : Int32))), .val (.int (own_F1 p4 (1 : Int32))), .val (.int (own_F1 p4 (2 : Int32))), .val (.int (own_F1 p4 (3 : Int32))), .val (.int (own_F1 p4 (4 : Int32))), .val (.int (own_F1 p4 (5 : Int32))), .val (.int (own_F1 p4 (6 : Int32))), .val (.int (own_F1 p4 (7 : Int32))), .val (.int (own_F1 p4 (8 : Int32))), .val (.ref b598), .val (.long (own_F7 (own_F1 p4 (3 : Int32)) (own_F1 p4 (0 : Int32)))), .second, .unset, .unset, .unset, .unset, .unset, .unset, .unset, .unset, .unset] [(.int (own_F1 p4 (1 : Int32))), (.int (own_F1 p4 (4 : Int32)))])) rfl (by rw [hml]; rfl) (argsL := [(.int (own_F1 p4 (4 : Int32))), (.int (own_F1 p4 (1 : Int32)))]) (rest := []) (lenOf own_pd6 rfl) rfl (by show 2 * 0 + _ ≤ _; exact Nat.le_of_eq rfl) (hb hby at_151) (fun _ _ => ⟨rfl, e627, (by decide : 6 + 0 ≤ _), (by decide : 15 + 0 ≤ _)⟩))
    obtain ⟨-, -, e628⟩ := hQ628
    refine own_back st628 ?_
    show own_End p e below s _ _ _ (T628.setTop (mkF m 154 #[.val (.int p0), .val (.int p1), .val (.int p2), .val (.int p3), .val (.int p4), .val (.int (1 : Int32)), .val (.int (0 : Int32)), .val (.int (own_F1 p4 (0 : Int32))), .val (.int (own_F1 p4 (1 : Int32))), .val (.int (own_F1 p4 (2 : Int32))), .val (.int (own_F1 p4 (3 : Int32))), .val (.int (own_F1 p4 (4 : Int32))), .val (.int (own_F1 p4 (5 : Int32))), .val (.int (own_F1 p4 (6 : Int32))), .val (.int (own_F1 p4 (7 : Int32))), .val (.int (own_F1 p4 (8 : Int32))), .val (.ref b598), .val (.long (own_F7 (own_F1 p4 (3 : Int32)) (own_F1 p4 (0 : Int32)))), .second, .unset, .unset, .unset, .unset, .unset, .unset, .unset, .unset, .unset] [(.long (own_F7 (own_F1 p4 (4 : Int32)) (own_F1 p4 (1 : Int32))))]))
    refine own_lstore X628 hx (hb hby at_154) (l' := #[.val (.int p0), .val (.int p1), .val (.int p2), .val (.int p3), .val (.int p4), .val (.int (1 : Int32)), .val (.int (0 : Int32)), .val (.int (own_F1 p4 (0 : Int32))), .val (.int (own_F1 p4 (1 : Int32))), .val (.int (own_F1 p4 (2 : Int32))), .val (.int (own_F1 p4 (3 : Int32))), .val (.int (own_F1 p4 (4 : Int32))), .val (.int (own_F1 p4 (5 : Int32))), .val (.int (own_F1 p4 (6 : Int32))), .val (.int (own_F1 p4 (7 : Int32))), .val (.int (own_F1 p4 (8 : Int32))), .val (.ref b598), .val (.long (own_F7 (own_F1 p4 (3 : Int32)) (own_F1 p4 (0 : Int32)))), .second, .val (.long (own_F7 (own_F1 p4 (4 : Int32)) (own_F1 p4 (1 : Int32)))), .second, .unset, .unset, .unset, .unset, .unset, .unset, .unset]) rfl (q := 156) rfl ?_
    refine own_iload X628 hx (hb hby at_156) rfl (q := 158) rfl ?_
    suffices J636 : own_End p e below s (own_Q0 Z p0 p1 p2 p3 p4 h0 n0) room_1.cells room_1.slots (T628.setTop (mkF m 171 #[.val (.int p0), .val (.int p1), .val (.int p2), .val (.int p3), .val (.int p4), .val (.int (1 : Int32)), .val (.int (0 : Int32)), .val (.int (own_F1 p4 (0 : Int32))), .val (.int (own_F1 p4 (1 : Int32))), .val (.int (own_F1 p4 (2 : Int32))), .val (.int (own_F1 p4 (3 : Int32))), .val (.int (own_F1 p4 (4 : Int32))), .val (.int (own_F1 p4 (5 : Int32))), .val (.int (own_F1 p4 (6 : Int32))), .val (.int (own_F1 p4 (7 : Int32))), .val (.int (own_F1 p4 (8 : Int32))), .val (.ref b598), .val (.long (own_F7 (own_F1 p4 (3 : Int32)) (own_F1 p4 (0 : Int32)))), .second, .val (.long (own_F7 (own_F1 p4 (4 : Int32)) (own_F1 p4 (1 : Int32)))), .second, .unset, .unset, .unset, .unset, .unset, .unset, .unset] [(.int (own_M0_158 p4))])) by
      by_cases hc158_629 : (own_F1 p4 (4 : Int32)) = (0 : Int32)
      · refine own_ifN X628 hx (hb hby at_158) (teq hc158_629).2 (q := 161) rfl ?_
        refine own_iload X628 hx (hb hby at_161) rfl (q := 163) rfl ?_
        suffices J633 : own_End p e below s (own_Q0 Z p0 p1 p2 p3 p4 h0 n0) room_1.cells room_1.slots (T628.setTop (mkF m 171 #[.val (.int p0), .val (.int p1), .val (.int p2), .val (.int p3), .val (.int p4), .val (.int (1 : Int32)), .val (.int (0 : Int32)), .val (.int (own_F1 p4 (0 : Int32))), .val (.int (own_F1 p4 (1 : Int32))), .val (.int (own_F1 p4 (2 : Int32))), .val (.int (own_F1 p4 (3 : Int32))), .val (.int (own_F1 p4 (4 : Int32))), .val (.int (own_F1 p4 (5 : Int32))), .val (.int (own_F1 p4 (6 : Int32))), .val (.int (own_F1 p4 (7 : Int32))), .val (.int (own_F1 p4 (8 : Int32))), .val (.ref b598), .val (.long (own_F7 (own_F1 p4 (3 : Int32)) (own_F1 p4 (0 : Int32)))), .second, .val (.long (own_F7 (own_F1 p4 (4 : Int32)) (own_F1 p4 (1 : Int32)))), .second, .unset, .unset, .unset, .unset, .unset, .unset, .unset] [(.int (own_M0_163 p4))])) by
          by_cases hc163_630 : (own_F1 p4 (5 : Int32)) = (0 : Int32)
          · refine own_ifY X628 hx (hb hby at_163) (teq hc163_630).1 (q := 170) (by decide) (by decide) ?_
            refine own_iconst X628 hx (hb hby at_170) (z := 0) rfl (q := 171) rfl ?_
            simp only [own_M0_163, if_pos hc163_630] at J633
            exact J633
          · refine own_ifN X628 hx (hb hby at_163) (feq hc163_630).1 (q := 166) rfl ?_
            refine own_iconst X628 hx (hb hby at_166) (z := 1) rfl (q := 167) rfl ?_
            refine own_goto X628 hx (hb hby at_167) (q := 171) (by decide) (by decide) ?_
            simp only [own_M0_163, if_neg hc163_630] at J633
            exact J633
        simp only [own_M0_158, if_pos hc158_629] at J636
        exact J636
      · refine own_ifY X628 hx (hb hby at_158) (feq hc158_629).2 (q := 166) (by decide) (by decide) ?_
        refine own_iconst X628 hx (hb hby at_166) (z := 1) rfl (q := 167) rfl ?_
        refine own_goto X628 hx (hb hby at_167) (q := 171) (by decide) (by decide) ?_
        simp only [own_M0_158, if_neg hc158_629] at J636
        exact J636
    refine own_iload X628 hx (hb hby at_171) rfl (q := 173) rfl ?_
    suffices J644 : own_End p e below s (own_Q0 Z p0 p1 p2 p3 p4 h0 n0) room_1.cells room_1.slots (T628.setTop (mkF m 186 #[.val (.int p0), .val (.int p1), .val (.int p2), .val (.int p3), .val (.int p4), .val (.int (1 : Int32)), .val (.int (0 : Int32)), .val (.int (own_F1 p4 (0 : Int32))), .val (.int (own_F1 p4 (1 : Int32))), .val (.int (own_F1 p4 (2 : Int32))), .val (.int (own_F1 p4 (3 : Int32))), .val (.int (own_F1 p4 (4 : Int32))), .val (.int (own_F1 p4 (5 : Int32))), .val (.int (own_F1 p4 (6 : Int32))), .val (.int (own_F1 p4 (7 : Int32))), .val (.int (own_F1 p4 (8 : Int32))), .val (.ref b598), .val (.long (own_F7 (own_F1 p4 (3 : Int32)) (own_F1 p4 (0 : Int32)))), .second, .val (.long (own_F7 (own_F1 p4 (4 : Int32)) (own_F1 p4 (1 : Int32)))), .second, .unset, .unset, .unset, .unset, .unset, .unset, .unset] [(.int (own_M0_173 p4)), (.int (own_M0_158 p4))])) by
      by_cases hc173_637 : (own_F1 p4 (1 : Int32)) = (0 : Int32)
      · refine own_ifN X628 hx (hb hby at_173) (teq hc173_637).2 (q := 176) rfl ?_
        refine own_iload X628 hx (hb hby at_176) rfl (q := 178) rfl ?_
        suffices J641 : own_End p e below s (own_Q0 Z p0 p1 p2 p3 p4 h0 n0) room_1.cells room_1.slots (T628.setTop (mkF m 186 #[.val (.int p0), .val (.int p1), .val (.int p2), .val (.int p3), .val (.int p4), .val (.int (1 : Int32)), .val (.int (0 : Int32)), .val (.int (own_F1 p4 (0 : Int32))), .val (.int (own_F1 p4 (1 : Int32))), .val (.int (own_F1 p4 (2 : Int32))), .val (.int (own_F1 p4 (3 : Int32))), .val (.int (own_F1 p4 (4 : Int32))), .val (.int (own_F1 p4 (5 : Int32))), .val (.int (own_F1 p4 (6 : Int32))), .val (.int (own_F1 p4 (7 : Int32))), .val (.int (own_F1 p4 (8 : Int32))), .val (.ref b598), .val (.long (own_F7 (own_F1 p4 (3 : Int32)) (own_F1 p4 (0 : Int32)))), .second, .val (.long (own_F7 (own_F1 p4 (4 : Int32)) (own_F1 p4 (1 : Int32)))), .second, .unset, .unset, .unset, .unset, .unset, .unset, .unset] [(.int (own_M0_178 p4)), (.int (own_M0_158 p4))])) by
          by_cases hc178_638 : (own_F1 p4 (2 : Int32)) = (0 : Int32)
          · refine own_ifY X628 hx (hb hby at_178) (teq hc178_638).1 (q := 185) (by decide) (by decide) ?_
            refine own_iconst X628 hx (hb hby at_185) (z := 0) rfl (q := 186) rfl ?_
            simp only [own_M0_178, if_pos hc178_638] at J641
            exact J641
          · refine own_ifN X628 hx (hb hby at_178) (feq hc178_638).1 (q := 181) rfl ?_
            refine own_iconst X628 hx (hb hby at_181) (z := 1) rfl (q := 182) rfl ?_
            refine own_goto X628 hx (hb hby at_182) (q := 186) (by decide) (by decide) ?_
            simp only [own_M0_178, if_neg hc178_638] at J641
            exact J641
        simp only [own_M0_173, if_pos hc173_637] at J644
        exact J644
      · refine own_ifY X628 hx (hb hby at_173) (feq hc173_637).2 (q := 181) (by decide) (by decide) ?_
        refine own_iconst X628 hx (hb hby at_181) (z := 1) rfl (q := 182) rfl ?_
        refine own_goto X628 hx (hb hby at_182) (q := 186) (by decide) (by decide) ?_
        simp only [own_M0_173, if_neg hc173_637] at J644
        exact J644
    obtain ⟨T645, Lc645, L645, X645, N645, hQ645, st645⟩ := own_shutS (val := some (.long (own_F7 (own_M0_158 p4) (own_M0_173 p4)))) (Q := own_Q7 Z (own_M0_158 p4) (own_M0_173 p4) T619.heap n0) (rc := 0) (rs := 0) N628 (fun _ _ _ q => ⟨q.1, q.2.1⟩) (Jvm.LawKit.callS X628 hx (y := (⟨"com/example/arcwise/arcwise/adaptation/HistoryRevisedPinLaw", "expect", "(ZZ)J"⟩ : MethodName)) hown (mvT hZ (hw _ (List.mem_of_getElem? (i := 38) rfl))) (mvT hZ (hw _ (List.mem_of_getElem? (i := 39) rfl))) (mvT hZ (hw _ (List.mem_of_getElem? (i := 2) rfl))) (mvT hZ (hw _ (List.mem_of_getElem? (i := 40) rfl))) (by decide) (backOf (W := 0) (own_rm7 l Z a0 hw [] (own_M0_158 p4) (own_M0_173 p4) T619.heap n0 Z626 ) hZ (hw _ (List.mem_of_getElem? (i := 40) rfl)) (hw _ (List.mem_of_getElem? (i := 2) rfl)) (by decide) (by decide)) (g := (mkF m 186 #[.val (.int p0), .val (.int p1), .val (.int p2), .val (.int p3), .val (.int p4), .val (.int (1 : Int32)), .val (.int (0 : Int32)), .val (.int (own_F1 p4 (0 : Int32))), .val (.int (own_F1 p4 (1 : Int32))), .val (.int (own_F1 p4 (2 : Int32))), .val (.int (own_F1 p4 (3 : Int32))), .val (.int (own_F1 p4 (4 : Int32))), .val (.int (own_F1 p4 (5 : Int32))), .val (.int (own_F1 p4 (6 : Int32))), .val (.int (own_F1 p4 (7 : Int32))), .val (.int (own_F1 p4 (8 : Int32))), .val (.ref b598), .val (.long (own_F7 (own_F1 p4 (3 : Int32)) (own_F1 p4 (0 : Int32)))), .second, .val (.long (own_F7 (own_F1 p4 (4 : Int32)) (own_F1 p4 (1 : Int32)))), .second, .unset, .unset, .unset, .unset, .unset, .unset, .unset] [(.int (own_M0_173 p4)), (.int (own_M0_158 p4))])) rfl (by rw [hml]; rfl) (argsL := [(.int (own_M0_158 p4)), (.int (own_M0_173 p4))]) (rest := []) (lenOf own_pd6 rfl) rfl (by show 2 * 0 + _ ≤ _; exact Nat.le_of_eq rfl) (hb hby at_186) (fun _ _ => ⟨rfl, e628, (by decide : 6 + 0 ≤ _), (by decide : 15 + 0 ≤ _)⟩))
    obtain ⟨-, -, e645⟩ := hQ645
    refine own_back st645 ?_
    show own_End p e below s _ _ _ (T645.setTop (mkF m 189 #[.val (.int p0), .val (.int p1), .val (.int p2), .val (.int p3), .val (.int p4), .val (.int (1 : Int32)), .val (.int (0 : Int32)), .val (.int (own_F1 p4 (0 : Int32))), .val (.int (own_F1 p4 (1 : Int32))), .val (.int (own_F1 p4 (2 : Int32))), .val (.int (own_F1 p4 (3 : Int32))), .val (.int (own_F1 p4 (4 : Int32))), .val (.int (own_F1 p4 (5 : Int32))), .val (.int (own_F1 p4 (6 : Int32))), .val (.int (own_F1 p4 (7 : Int32))), .val (.int (own_F1 p4 (8 : Int32))), .val (.ref b598), .val (.long (own_F7 (own_F1 p4 (3 : Int32)) (own_F1 p4 (0 : Int32)))), .second, .val (.long (own_F7 (own_F1 p4 (4 : Int32)) (own_F1 p4 (1 : Int32)))), .second, .unset, .unset, .unset, .unset, .unset, .unset, .unset] [(.long (own_F7 (own_M0_158 p4) (own_M0_173 p4)))]))
    refine own_lstore X645 hx (hb hby at_189) (l' := #[.val (.int p0), .val (.int p1), .val (.int p2), .val (.int p3), .val (.int p4), .val (.int (1 : Int32)), .val (.int (0 : Int32)), .val (.int (own_F1 p4 (0 : Int32))), .val (.int (own_F1 p4 (1 : Int32))), .val (.int (own_F1 p4 (2 : Int32))), .val (.int (own_F1 p4 (3 : Int32))), .val (.int (own_F1 p4 (4 : Int32))), .val (.int (own_F1 p4 (5 : Int32))), .val (.int (own_F1 p4 (6 : Int32))), .val (.int (own_F1 p4 (7 : Int32))), .val (.int (own_F1 p4 (8 : Int32))), .val (.ref b598), .val (.long (own_F7 (own_F1 p4 (3 : Int32)) (own_F1 p4 (0 : Int32)))), .second, .val (.long (own_F7 (own_F1 p4 (4 : Int32)) (own_F1 p4 (1 : Int32)))), .second, .val (.long (own_F7 (own_M0_158 p4) (own_M0_173 p4))), .second, .unset, .unset, .unset, .unset, .unset]) rfl (q := 191) rfl ?_
    refine own_iload X645 hx (hb hby at_191) rfl (q := 193) rfl ?_
    refine own_iconst X645 hx (hb hby at_193) (z := 0) rfl (q := 194) rfl ?_
    obtain ⟨T646, Lc646, L646, X646, N646, hQ646, st646⟩ := own_shutS (val := some (.long (own_F7 (own_F1 p4 (6 : Int32)) (0 : Int32)))) (Q := own_Q7 Z (own_F1 p4 (6 : Int32)) (0 : Int32) T619.heap n0) (rc := 0) (rs := 0) N645 (fun _ _ _ q => ⟨q.1, q.2.1⟩) (Jvm.LawKit.callS X645 hx (y := (⟨"com/example/arcwise/arcwise/adaptation/HistoryRevisedPinLaw", "expect", "(ZZ)J"⟩ : MethodName)) hown (mvT hZ (hw _ (List.mem_of_getElem? (i := 38) rfl))) (mvT hZ (hw _ (List.mem_of_getElem? (i := 39) rfl))) (mvT hZ (hw _ (List.mem_of_getElem? (i := 2) rfl))) (mvT hZ (hw _ (List.mem_of_getElem? (i := 40) rfl))) (by decide) (backOf (W := 0) (own_rm7 l Z a0 hw [] (own_F1 p4 (6 : Int32)) (0 : Int32) T619.heap n0 Z626 ) hZ (hw _ (List.mem_of_getElem? (i := 40) rfl)) (hw _ (List.mem_of_getElem? (i := 2) rfl)) (by decide) (by decide)) (g := (mkF m 194 #[.val (.int p0), .val (.int p1), .val (.int p2), .val (.int p3), .val (.int p4), .val (.int (1 : Int32)), .val (.int (0 : Int32)), .val (.int (own_F1 p4 (0 : Int32))), .val (.int (own_F1 p4 (1 : Int32))), .val (.int (own_F1 p4 (2 : Int32))), .val (.int (own_F1 p4 (3 : Int32))), .val (.int (own_F1 p4 (4 : Int32))), .val (.int (own_F1 p4 (5 : Int32))), .val (.int (own_F1 p4 (6 : Int32))), .val (.int (own_F1 p4 (7 : Int32))), .val (.int (own_F1 p4 (8 : Int32))), .val (.ref b598), .val (.long (own_F7 (own_F1 p4 (3 : Int32)) (own_F1 p4 (0 : Int32)))), .second, .val (.long (own_F7 (own_F1 p4 (4 : Int32)) (own_F1 p4 (1 : Int32)))), .second, .val (.long (own_F7 (own_M0_158 p4) (own_M0_173 p4))), .second, .unset, .unset, .unset, .unset, .unset] [(.int (0 : Int32)), (.int (own_F1 p4 (6 : Int32)))])) rfl (by rw [hml]; rfl) (argsL := [(.int (own_F1 p4 (6 : Int32))), (.int (0 : Int32))]) (rest := []) (lenOf own_pd6 rfl) rfl (by show 2 * 0 + _ ≤ _; exact Nat.le_of_eq rfl) (hb hby at_194) (fun _ _ => ⟨rfl, e645, (by decide : 6 + 0 ≤ _), (by decide : 15 + 0 ≤ _)⟩))
    obtain ⟨-, -, e646⟩ := hQ646
    refine own_back st646 ?_
    show own_End p e below s _ _ _ (T646.setTop (mkF m 197 #[.val (.int p0), .val (.int p1), .val (.int p2), .val (.int p3), .val (.int p4), .val (.int (1 : Int32)), .val (.int (0 : Int32)), .val (.int (own_F1 p4 (0 : Int32))), .val (.int (own_F1 p4 (1 : Int32))), .val (.int (own_F1 p4 (2 : Int32))), .val (.int (own_F1 p4 (3 : Int32))), .val (.int (own_F1 p4 (4 : Int32))), .val (.int (own_F1 p4 (5 : Int32))), .val (.int (own_F1 p4 (6 : Int32))), .val (.int (own_F1 p4 (7 : Int32))), .val (.int (own_F1 p4 (8 : Int32))), .val (.ref b598), .val (.long (own_F7 (own_F1 p4 (3 : Int32)) (own_F1 p4 (0 : Int32)))), .second, .val (.long (own_F7 (own_F1 p4 (4 : Int32)) (own_F1 p4 (1 : Int32)))), .second, .val (.long (own_F7 (own_M0_158 p4) (own_M0_173 p4))), .second, .unset, .unset, .unset, .unset, .unset] [(.long (own_F7 (own_F1 p4 (6 : Int32)) (0 : Int32)))]))
    refine own_lstore X646 hx (hb hby at_197) (l' := #[.val (.int p0), .val (.int p1), .val (.int p2), .val (.int p3), .val (.int p4), .val (.int (1 : Int32)), .val (.int (0 : Int32)), .val (.int (own_F1 p4 (0 : Int32))), .val (.int (own_F1 p4 (1 : Int32))), .val (.int (own_F1 p4 (2 : Int32))), .val (.int (own_F1 p4 (3 : Int32))), .val (.int (own_F1 p4 (4 : Int32))), .val (.int (own_F1 p4 (5 : Int32))), .val (.int (own_F1 p4 (6 : Int32))), .val (.int (own_F1 p4 (7 : Int32))), .val (.int (own_F1 p4 (8 : Int32))), .val (.ref b598), .val (.long (own_F7 (own_F1 p4 (3 : Int32)) (own_F1 p4 (0 : Int32)))), .second, .val (.long (own_F7 (own_F1 p4 (4 : Int32)) (own_F1 p4 (1 : Int32)))), .second, .val (.long (own_F7 (own_M0_158 p4) (own_M0_173 p4))), .second, .val (.long (own_F7 (own_F1 p4 (6 : Int32)) (0 : Int32))), .second, .unset, .unset, .unset]) rfl (q := 199) rfl ?_
    refine own_iload X646 hx (hb hby at_199) rfl (q := 201) rfl ?_
    suffices J654 : own_End p e below s (own_Q0 Z p0 p1 p2 p3 p4 h0 n0) room_1.cells room_1.slots (T646.setTop (mkF m 214 #[.val (.int p0), .val (.int p1), .val (.int p2), .val (.int p3), .val (.int p4), .val (.int (1 : Int32)), .val (.int (0 : Int32)), .val (.int (own_F1 p4 (0 : Int32))), .val (.int (own_F1 p4 (1 : Int32))), .val (.int (own_F1 p4 (2 : Int32))), .val (.int (own_F1 p4 (3 : Int32))), .val (.int (own_F1 p4 (4 : Int32))), .val (.int (own_F1 p4 (5 : Int32))), .val (.int (own_F1 p4 (6 : Int32))), .val (.int (own_F1 p4 (7 : Int32))), .val (.int (own_F1 p4 (8 : Int32))), .val (.ref b598), .val (.long (own_F7 (own_F1 p4 (3 : Int32)) (own_F1 p4 (0 : Int32)))), .second, .val (.long (own_F7 (own_F1 p4 (4 : Int32)) (own_F1 p4 (1 : Int32)))), .second, .val (.long (own_F7 (own_M0_158 p4) (own_M0_173 p4))), .second, .val (.long (own_F7 (own_F1 p4 (6 : Int32)) (0 : Int32))), .second, .unset, .unset, .unset] [(.int (own_M0_201 p4))])) by
      by_cases hc201_647 : (own_F1 p4 (7 : Int32)) = (0 : Int32)
      · refine own_ifN X646 hx (hb hby at_201) (teq hc201_647).2 (q := 204) rfl ?_
        refine own_iload X646 hx (hb hby at_204) rfl (q := 206) rfl ?_
        suffices J651 : own_End p e below s (own_Q0 Z p0 p1 p2 p3 p4 h0 n0) room_1.cells room_1.slots (T646.setTop (mkF m 214 #[.val (.int p0), .val (.int p1), .val (.int p2), .val (.int p3), .val (.int p4), .val (.int (1 : Int32)), .val (.int (0 : Int32)), .val (.int (own_F1 p4 (0 : Int32))), .val (.int (own_F1 p4 (1 : Int32))), .val (.int (own_F1 p4 (2 : Int32))), .val (.int (own_F1 p4 (3 : Int32))), .val (.int (own_F1 p4 (4 : Int32))), .val (.int (own_F1 p4 (5 : Int32))), .val (.int (own_F1 p4 (6 : Int32))), .val (.int (own_F1 p4 (7 : Int32))), .val (.int (own_F1 p4 (8 : Int32))), .val (.ref b598), .val (.long (own_F7 (own_F1 p4 (3 : Int32)) (own_F1 p4 (0 : Int32)))), .second, .val (.long (own_F7 (own_F1 p4 (4 : Int32)) (own_F1 p4 (1 : Int32)))), .second, .val (.long (own_F7 (own_M0_158 p4) (own_M0_173 p4))), .second, .val (.long (own_F7 (own_F1 p4 (6 : Int32)) (0 : Int32))), .second, .unset, .unset, .unset] [(.int (own_M0_206 p4))])) by
          by_cases hc206_648 : (own_F1 p4 (8 : Int32)) = (0 : Int32)
          · refine own_ifY X646 hx (hb hby at_206) (teq hc206_648).1 (q := 213) (by decide) (by decide) ?_
            refine own_iconst X646 hx (hb hby at_213) (z := 0) rfl (q := 214) rfl ?_
            simp only [own_M0_206, if_pos hc206_648] at J651
            exact J651
          · refine own_ifN X646 hx (hb hby at_206) (feq hc206_648).1 (q := 209) rfl ?_
            refine own_iconst X646 hx (hb hby at_209) (z := 1) rfl (q := 210) rfl ?_
            refine own_goto X646 hx (hb hby at_210) (q := 214) (by decide) (by decide) ?_
            simp only [own_M0_206, if_neg hc206_648] at J651
            exact J651
        simp only [own_M0_201, if_pos hc201_647] at J654
        exact J654
      · refine own_ifY X646 hx (hb hby at_201) (feq hc201_647).2 (q := 209) (by decide) (by decide) ?_
        refine own_iconst X646 hx (hb hby at_209) (z := 1) rfl (q := 210) rfl ?_
        refine own_goto X646 hx (hb hby at_210) (q := 214) (by decide) (by decide) ?_
        simp only [own_M0_201, if_neg hc201_647] at J654
        exact J654
    refine own_iconst X646 hx (hb hby at_214) (z := 0) rfl (q := 215) rfl ?_
    obtain ⟨T655, Lc655, L655, X655, N655, hQ655, st655⟩ := own_shutS (val := some (.long (own_F7 (own_M0_201 p4) (0 : Int32)))) (Q := own_Q7 Z (own_M0_201 p4) (0 : Int32) T619.heap n0) (rc := 0) (rs := 0) N646 (fun _ _ _ q => ⟨q.1, q.2.1⟩) (Jvm.LawKit.callS X646 hx (y := (⟨"com/example/arcwise/arcwise/adaptation/HistoryRevisedPinLaw", "expect", "(ZZ)J"⟩ : MethodName)) hown (mvT hZ (hw _ (List.mem_of_getElem? (i := 38) rfl))) (mvT hZ (hw _ (List.mem_of_getElem? (i := 39) rfl))) (mvT hZ (hw _ (List.mem_of_getElem? (i := 2) rfl))) (mvT hZ (hw _ (List.mem_of_getElem? (i := 40) rfl))) (by decide) (backOf (W := 0) (own_rm7 l Z a0 hw [] (own_M0_201 p4) (0 : Int32) T619.heap n0 Z626 ) hZ (hw _ (List.mem_of_getElem? (i := 40) rfl)) (hw _ (List.mem_of_getElem? (i := 2) rfl)) (by decide) (by decide)) (g := (mkF m 215 #[.val (.int p0), .val (.int p1), .val (.int p2), .val (.int p3), .val (.int p4), .val (.int (1 : Int32)), .val (.int (0 : Int32)), .val (.int (own_F1 p4 (0 : Int32))), .val (.int (own_F1 p4 (1 : Int32))), .val (.int (own_F1 p4 (2 : Int32))), .val (.int (own_F1 p4 (3 : Int32))), .val (.int (own_F1 p4 (4 : Int32))), .val (.int (own_F1 p4 (5 : Int32))), .val (.int (own_F1 p4 (6 : Int32))), .val (.int (own_F1 p4 (7 : Int32))), .val (.int (own_F1 p4 (8 : Int32))), .val (.ref b598), .val (.long (own_F7 (own_F1 p4 (3 : Int32)) (own_F1 p4 (0 : Int32)))), .second, .val (.long (own_F7 (own_F1 p4 (4 : Int32)) (own_F1 p4 (1 : Int32)))), .second, .val (.long (own_F7 (own_M0_158 p4) (own_M0_173 p4))), .second, .val (.long (own_F7 (own_F1 p4 (6 : Int32)) (0 : Int32))), .second, .unset, .unset, .unset] [(.int (0 : Int32)), (.int (own_M0_201 p4))])) rfl (by rw [hml]; rfl) (argsL := [(.int (own_M0_201 p4)), (.int (0 : Int32))]) (rest := []) (lenOf own_pd6 rfl) rfl (by show 2 * 0 + _ ≤ _; exact Nat.le_of_eq rfl) (hb hby at_215) (fun _ _ => ⟨rfl, e646, (by decide : 6 + 0 ≤ _), (by decide : 15 + 0 ≤ _)⟩))
    obtain ⟨-, -, e655⟩ := hQ655
    refine own_back st655 ?_
    show own_End p e below s _ _ _ (T655.setTop (mkF m 218 #[.val (.int p0), .val (.int p1), .val (.int p2), .val (.int p3), .val (.int p4), .val (.int (1 : Int32)), .val (.int (0 : Int32)), .val (.int (own_F1 p4 (0 : Int32))), .val (.int (own_F1 p4 (1 : Int32))), .val (.int (own_F1 p4 (2 : Int32))), .val (.int (own_F1 p4 (3 : Int32))), .val (.int (own_F1 p4 (4 : Int32))), .val (.int (own_F1 p4 (5 : Int32))), .val (.int (own_F1 p4 (6 : Int32))), .val (.int (own_F1 p4 (7 : Int32))), .val (.int (own_F1 p4 (8 : Int32))), .val (.ref b598), .val (.long (own_F7 (own_F1 p4 (3 : Int32)) (own_F1 p4 (0 : Int32)))), .second, .val (.long (own_F7 (own_F1 p4 (4 : Int32)) (own_F1 p4 (1 : Int32)))), .second, .val (.long (own_F7 (own_M0_158 p4) (own_M0_173 p4))), .second, .val (.long (own_F7 (own_F1 p4 (6 : Int32)) (0 : Int32))), .second, .unset, .unset, .unset] [(.long (own_F7 (own_M0_201 p4) (0 : Int32)))]))
    refine own_lstore X655 hx (hb hby at_218) (l' := #[.val (.int p0), .val (.int p1), .val (.int p2), .val (.int p3), .val (.int p4), .val (.int (1 : Int32)), .val (.int (0 : Int32)), .val (.int (own_F1 p4 (0 : Int32))), .val (.int (own_F1 p4 (1 : Int32))), .val (.int (own_F1 p4 (2 : Int32))), .val (.int (own_F1 p4 (3 : Int32))), .val (.int (own_F1 p4 (4 : Int32))), .val (.int (own_F1 p4 (5 : Int32))), .val (.int (own_F1 p4 (6 : Int32))), .val (.int (own_F1 p4 (7 : Int32))), .val (.int (own_F1 p4 (8 : Int32))), .val (.ref b598), .val (.long (own_F7 (own_F1 p4 (3 : Int32)) (own_F1 p4 (0 : Int32)))), .second, .val (.long (own_F7 (own_F1 p4 (4 : Int32)) (own_F1 p4 (1 : Int32)))), .second, .val (.long (own_F7 (own_M0_158 p4) (own_M0_173 p4))), .second, .val (.long (own_F7 (own_F1 p4 (6 : Int32)) (0 : Int32))), .second, .val (.long (own_F7 (own_M0_201 p4) (0 : Int32))), .second, .unset]) rfl (q := 220) rfl ?_
    refine own_aload X655 hx (hb hby at_220) rfl rfl (q := 222) rfl ?_
    refine own_iload X655 hx (hb hby at_222) rfl (q := 224) rfl ?_
    obtain ⟨cq656, kq656, q656a, q656b, q656c⟩ := isOf hZ e655 Q600_620
    obtain ⟨T656, Lc656, L656, X656, N656, hQ656, st656⟩ := own_shutV (val := some (.int p2)) (Q := own_Q8_1 Z b598 b600_4 k600_4 p3 p2 T619.heap n0) (rc := 0) (rs := 0) N655 (fun _ _ _ q => ⟨q.1, q.2.1⟩) (X655.virtualBack hx (y := (⟨"com/example/arcwise/arcwise/adaptation/History", "lastPosition", "(I)I"⟩ : MethodName)) (z := (⟨"com/example/arcwise/arcwise/adaptation/History", "lastPosition", "(I)I"⟩ : MethodName)) hown (mvT hZ (hw _ (List.mem_of_getElem? (i := 42) rfl))) (mvT hZ (hw _ (List.mem_of_getElem? (i := 43) rfl))) (notFace_of_selects (args := #[]) (mvT hZ (hw _ (List.mem_of_getElem? (i := 45) rfl)))) (mvT hZ (hw _ (List.mem_of_getElem? (i := 45) rfl))) (mvT hZ (hw _ (List.mem_of_getElem? (i := 44) rfl))) (by decide) (backOf (W := 0) (own_rm8_1 l Z a0 hw [] b598 b600_4 k600_4 p3 p2 T619.heap n0 Z626 Q600_620 Q600_625 Q619_4) hZ (hw _ (List.mem_of_getElem? (i := 46) rfl)) (hw _ (List.mem_of_getElem? (i := 6) rfl)) (by decide) (by decide)) q656a q656c (g := (mkF m 224 #[.val (.int p0), .val (.int p1), .val (.int p2), .val (.int p3), .val (.int p4), .val (.int (1 : Int32)), .val (.int (0 : Int32)), .val (.int (own_F1 p4 (0 : Int32))), .val (.int (own_F1 p4 (1 : Int32))), .val (.int (own_F1 p4 (2 : Int32))), .val (.int (own_F1 p4 (3 : Int32))), .val (.int (own_F1 p4 (4 : Int32))), .val (.int (own_F1 p4 (5 : Int32))), .val (.int (own_F1 p4 (6 : Int32))), .val (.int (own_F1 p4 (7 : Int32))), .val (.int (own_F1 p4 (8 : Int32))), .val (.ref b598), .val (.long (own_F7 (own_F1 p4 (3 : Int32)) (own_F1 p4 (0 : Int32)))), .second, .val (.long (own_F7 (own_F1 p4 (4 : Int32)) (own_F1 p4 (1 : Int32)))), .second, .val (.long (own_F7 (own_M0_158 p4) (own_M0_173 p4))), .second, .val (.long (own_F7 (own_F1 p4 (6 : Int32)) (0 : Int32))), .second, .val (.long (own_F7 (own_M0_201 p4) (0 : Int32))), .second, .unset] [(.int (1 : Int32)), (.ref b598)])) rfl (by rw [hml]; rfl) (Steps.refl _) (argsL := [(.int (1 : Int32))]) (rest := []) (lenOf own_pd7 rfl) rfl (by show 2 * 0 + _ ≤ _; exact Nat.le_of_eq rfl) (hb hby at_224) (fun _ _ => ⟨rfl, e655, (by decide : 6 + 0 ≤ _), (by decide : 15 + 0 ≤ _)⟩))
    obtain ⟨-, -, e656⟩ := hQ656
    refine own_via st656 ?_
    show own_End p e below s _ _ _ (T656.setTop (mkF m 227 #[.val (.int p0), .val (.int p1), .val (.int p2), .val (.int p3), .val (.int p4), .val (.int (1 : Int32)), .val (.int (0 : Int32)), .val (.int (own_F1 p4 (0 : Int32))), .val (.int (own_F1 p4 (1 : Int32))), .val (.int (own_F1 p4 (2 : Int32))), .val (.int (own_F1 p4 (3 : Int32))), .val (.int (own_F1 p4 (4 : Int32))), .val (.int (own_F1 p4 (5 : Int32))), .val (.int (own_F1 p4 (6 : Int32))), .val (.int (own_F1 p4 (7 : Int32))), .val (.int (own_F1 p4 (8 : Int32))), .val (.ref b598), .val (.long (own_F7 (own_F1 p4 (3 : Int32)) (own_F1 p4 (0 : Int32)))), .second, .val (.long (own_F7 (own_F1 p4 (4 : Int32)) (own_F1 p4 (1 : Int32)))), .second, .val (.long (own_F7 (own_M0_158 p4) (own_M0_173 p4))), .second, .val (.long (own_F7 (own_F1 p4 (6 : Int32)) (0 : Int32))), .second, .val (.long (own_F7 (own_M0_201 p4) (0 : Int32))), .second, .unset] [(.int p2)]))
    refine own_iloadN X656 hx (hb hby at_227) rfl (q := 228) rfl ?_
    refine own_icN X656 hx (hb hby at_228) (teq (rfl : p2 = p2)).2 (q := 231) rfl ?_
    refine own_iconst X656 hx (hb hby at_231) (z := 1) rfl (q := 232) rfl ?_
    refine own_goto X656 hx (hb hby at_232) (q := 236) (by decide) (by decide) ?_
    refine own_istore X656 hx (hb hby at_236) (l' := #[.val (.int p0), .val (.int p1), .val (.int p2), .val (.int p3), .val (.int p4), .val (.int (1 : Int32)), .val (.int (0 : Int32)), .val (.int (own_F1 p4 (0 : Int32))), .val (.int (own_F1 p4 (1 : Int32))), .val (.int (own_F1 p4 (2 : Int32))), .val (.int (own_F1 p4 (3 : Int32))), .val (.int (own_F1 p4 (4 : Int32))), .val (.int (own_F1 p4 (5 : Int32))), .val (.int (own_F1 p4 (6 : Int32))), .val (.int (own_F1 p4 (7 : Int32))), .val (.int (own_F1 p4 (8 : Int32))), .val (.ref b598), .val (.long (own_F7 (own_F1 p4 (3 : Int32)) (own_F1 p4 (0 : Int32)))), .second, .val (.long (own_F7 (own_F1 p4 (4 : Int32)) (own_F1 p4 (1 : Int32)))), .second, .val (.long (own_F7 (own_M0_158 p4) (own_M0_173 p4))), .second, .val (.long (own_F7 (own_F1 p4 (6 : Int32)) (0 : Int32))), .second, .val (.long (own_F7 (own_M0_201 p4) (0 : Int32))), .second, .val (.int (1 : Int32))]) rfl (q := 238) rfl ?_
    refine own_iload X656 hx (hb hby at_238) rfl (q := 240) rfl ?_
    refine own_ifN X656 hx (hb hby at_240) (feq (by decide : ¬ ((1 : Int32) = (0 : Int32)))).1 (q := 243) rfl ?_
    refine own_aload X656 hx (hb hby at_243) rfl rfl (q := 245) rfl ?_
    refine own_iload X656 hx (hb hby at_245) rfl (q := 247) rfl ?_
    obtain ⟨cq657, kq657, q657a, q657b, q657c⟩ := isOf hZ e656 Q600_620
    obtain ⟨T657, Lc657, L657, X657, N657, hQ657, st657⟩ := own_shutV (val := some (.long (own_F10_1 (((0 : Int64) + (1 : Int64)) + (1 : Int64)) (own_G6_1_w_o0_lastRemoval_1 (own_F1 p4 (3 : Int32)) ((0 : Int64) + (1 : Int64)) (own_G6_1_w_o0_lastRemoval_1 (own_F1 p4 (0 : Int32)) (0 : Int64) (-1 : Int64)))))) (Q := own_Q9_1 Z b598 b600_0 b600_2 k600_0 ((0 : Int64) + (1 : Int64)) (((0 : Int64) + (1 : Int64)) + (1 : Int64)) k600_2 (own_G6_0_w_o0_lastRemoval_0 (own_F1 p4 (6 : Int32)) (0 : Int64) (-1 : Int64)) (own_G6_1_w_o0_lastRemoval_1 (own_F1 p4 (3 : Int32)) ((0 : Int64) + (1 : Int64)) (own_G6_1_w_o0_lastRemoval_1 (own_F1 p4 (0 : Int32)) (0 : Int64) (-1 : Int64))) T619.heap n0) (rc := 0) (rs := 0) N656 (fun _ _ _ q => ⟨q.1, q.2.1⟩) (X656.virtualBack hx (y := (⟨"com/example/arcwise/arcwise/adaptation/History", "sinceRemoval", "(I)J"⟩ : MethodName)) (z := (⟨"com/example/arcwise/arcwise/adaptation/History", "sinceRemoval", "(I)J"⟩ : MethodName)) hown (mvT hZ (hw _ (List.mem_of_getElem? (i := 47) rfl))) (mvT hZ (hw _ (List.mem_of_getElem? (i := 48) rfl))) (notFace_of_selects (args := #[]) (mvT hZ (hw _ (List.mem_of_getElem? (i := 50) rfl)))) (mvT hZ (hw _ (List.mem_of_getElem? (i := 50) rfl))) (mvT hZ (hw _ (List.mem_of_getElem? (i := 49) rfl))) (by decide) (backOf (W := 0) (own_rm9_1 l Z a0 hw [] b598 b600_0 b600_2 k600_0 ((0 : Int64) + (1 : Int64)) (((0 : Int64) + (1 : Int64)) + (1 : Int64)) k600_2 (own_G6_0_w_o0_lastRemoval_0 (own_F1 p4 (6 : Int32)) (0 : Int64) (-1 : Int64)) (own_G6_1_w_o0_lastRemoval_1 (own_F1 p4 (3 : Int32)) ((0 : Int64) + (1 : Int64)) (own_G6_1_w_o0_lastRemoval_1 (own_F1 p4 (0 : Int32)) (0 : Int64) (-1 : Int64))) T619.heap n0 Z626 Q600_620 Q600_621 Q600_623 Q619_0 Q619_2) hZ (hw _ (List.mem_of_getElem? (i := 51) rfl)) (hw _ (List.mem_of_getElem? (i := 6) rfl)) (by decide) (by decide)) q657a q657c (g := (mkF m 247 #[.val (.int p0), .val (.int p1), .val (.int p2), .val (.int p3), .val (.int p4), .val (.int (1 : Int32)), .val (.int (0 : Int32)), .val (.int (own_F1 p4 (0 : Int32))), .val (.int (own_F1 p4 (1 : Int32))), .val (.int (own_F1 p4 (2 : Int32))), .val (.int (own_F1 p4 (3 : Int32))), .val (.int (own_F1 p4 (4 : Int32))), .val (.int (own_F1 p4 (5 : Int32))), .val (.int (own_F1 p4 (6 : Int32))), .val (.int (own_F1 p4 (7 : Int32))), .val (.int (own_F1 p4 (8 : Int32))), .val (.ref b598), .val (.long (own_F7 (own_F1 p4 (3 : Int32)) (own_F1 p4 (0 : Int32)))), .second, .val (.long (own_F7 (own_F1 p4 (4 : Int32)) (own_F1 p4 (1 : Int32)))), .second, .val (.long (own_F7 (own_M0_158 p4) (own_M0_173 p4))), .second, .val (.long (own_F7 (own_F1 p4 (6 : Int32)) (0 : Int32))), .second, .val (.long (own_F7 (own_M0_201 p4) (0 : Int32))), .second, .val (.int (1 : Int32))] [(.int (1 : Int32)), (.ref b598)])) rfl (by rw [hml]; rfl) (Steps.refl _) (argsL := [(.int (1 : Int32))]) (rest := []) (lenOf own_pd8 rfl) rfl (by show 2 * 0 + _ ≤ _; exact Nat.le_of_eq rfl) (hb hby at_247) (fun _ _ => ⟨rfl, e656, (by decide : 6 + 0 ≤ _), (by decide : 15 + 0 ≤ _)⟩))
    obtain ⟨-, -, e657⟩ := hQ657
    refine own_via st657 ?_
    show own_End p e below s _ _ _ (T657.setTop (mkF m 250 #[.val (.int p0), .val (.int p1), .val (.int p2), .val (.int p3), .val (.int p4), .val (.int (1 : Int32)), .val (.int (0 : Int32)), .val (.int (own_F1 p4 (0 : Int32))), .val (.int (own_F1 p4 (1 : Int32))), .val (.int (own_F1 p4 (2 : Int32))), .val (.int (own_F1 p4 (3 : Int32))), .val (.int (own_F1 p4 (4 : Int32))), .val (.int (own_F1 p4 (5 : Int32))), .val (.int (own_F1 p4 (6 : Int32))), .val (.int (own_F1 p4 (7 : Int32))), .val (.int (own_F1 p4 (8 : Int32))), .val (.ref b598), .val (.long (own_F7 (own_F1 p4 (3 : Int32)) (own_F1 p4 (0 : Int32)))), .second, .val (.long (own_F7 (own_F1 p4 (4 : Int32)) (own_F1 p4 (1 : Int32)))), .second, .val (.long (own_F7 (own_M0_158 p4) (own_M0_173 p4))), .second, .val (.long (own_F7 (own_F1 p4 (6 : Int32)) (0 : Int32))), .second, .val (.long (own_F7 (own_M0_201 p4) (0 : Int32))), .second, .val (.int (1 : Int32))] [(.long (own_F10_1 (((0 : Int64) + (1 : Int64)) + (1 : Int64)) (own_G6_1_w_o0_lastRemoval_1 (own_F1 p4 (3 : Int32)) ((0 : Int64) + (1 : Int64)) (own_G6_1_w_o0_lastRemoval_1 (own_F1 p4 (0 : Int32)) (0 : Int64) (-1 : Int64)))))]))
    refine own_lload X657 hx (hb hby at_250) rfl (q := 252) rfl ?_
    have hk658 : (own_F10_1 (((0 : Int64) + (1 : Int64)) + (1 : Int64)) (own_G6_1_w_o0_lastRemoval_1 (own_F1 p4 (3 : Int32)) ((0 : Int64) + (1 : Int64)) (own_G6_1_w_o0_lastRemoval_1 (own_F1 p4 (0 : Int32)) (0 : Int64) (-1 : Int64)))) = (own_F7 (own_F1 p4 (3 : Int32)) (own_F1 p4 (0 : Int32))) := by rcases own_bit p4 3 with t3 | t3 <;> rcases own_bit p4 0 with t0 | t0 <;> simp only [t3, t0] <;> decide
    refine own_lcN X657 hx (hb hby at_252) (r := 253) rfl (hb hby at_253) (own_teq hk658).2 (q := 256) rfl ?_
    refine own_iconst X657 hx (hb hby at_256) (z := 1) rfl (q := 257) rfl ?_
    refine own_goto X657 hx (hb hby at_257) (q := 261) (by decide) (by decide) ?_
    refine own_istore X657 hx (hb hby at_261) (l' := #[.val (.int p0), .val (.int p1), .val (.int p2), .val (.int p3), .val (.int p4), .val (.int (1 : Int32)), .val (.int (0 : Int32)), .val (.int (own_F1 p4 (0 : Int32))), .val (.int (own_F1 p4 (1 : Int32))), .val (.int (own_F1 p4 (2 : Int32))), .val (.int (own_F1 p4 (3 : Int32))), .val (.int (own_F1 p4 (4 : Int32))), .val (.int (own_F1 p4 (5 : Int32))), .val (.int (own_F1 p4 (6 : Int32))), .val (.int (own_F1 p4 (7 : Int32))), .val (.int (own_F1 p4 (8 : Int32))), .val (.ref b598), .val (.long (own_F7 (own_F1 p4 (3 : Int32)) (own_F1 p4 (0 : Int32)))), .second, .val (.long (own_F7 (own_F1 p4 (4 : Int32)) (own_F1 p4 (1 : Int32)))), .second, .val (.long (own_F7 (own_M0_158 p4) (own_M0_173 p4))), .second, .val (.long (own_F7 (own_F1 p4 (6 : Int32)) (0 : Int32))), .second, .val (.long (own_F7 (own_M0_201 p4) (0 : Int32))), .second, .val (.int (1 : Int32))]) rfl (q := 263) rfl ?_
    refine own_iload X657 hx (hb hby at_263) rfl (q := 265) rfl ?_
    refine own_ifN X657 hx (hb hby at_265) (feq (by decide : ¬ ((1 : Int32) = (0 : Int32)))).1 (q := 268) rfl ?_
    refine own_aload X657 hx (hb hby at_268) rfl rfl (q := 270) rfl ?_
    refine own_iload X657 hx (hb hby at_270) rfl (q := 272) rfl ?_
    obtain ⟨cq659, kq659, q659a, q659b, q659c⟩ := isOf hZ e657 Q600_620
    obtain ⟨T659, Lc659, L659, X659, N659, hQ659, st659⟩ := own_shutV (val := some (.long (own_F10_1 (((0 : Int64) + (1 : Int64)) + (1 : Int64)) (own_G6_1_w_o0_lastWipeOut_1 (own_F1 p4 (4 : Int32)) ((0 : Int64) + (1 : Int64)) (own_G6_1_w_o0_lastWipeOut_1 (own_F1 p4 (1 : Int32)) (0 : Int64) (-1 : Int64)))))) (Q := own_Q11_1 Z b598 b600_0 b600_1 k600_0 ((0 : Int64) + (1 : Int64)) (((0 : Int64) + (1 : Int64)) + (1 : Int64)) k600_1 (own_G6_0_w_o0_lastWipeOut_0 (own_F1 p4 (7 : Int32)) (0 : Int64) (-1 : Int64)) (own_G6_1_w_o0_lastWipeOut_1 (own_F1 p4 (4 : Int32)) ((0 : Int64) + (1 : Int64)) (own_G6_1_w_o0_lastWipeOut_1 (own_F1 p4 (1 : Int32)) (0 : Int64) (-1 : Int64))) T619.heap n0) (rc := 0) (rs := 0) N657 (fun _ _ _ q => ⟨q.1, q.2.1⟩) (X657.virtualBack hx (y := (⟨"com/example/arcwise/arcwise/adaptation/History", "sinceWipeOut", "(I)J"⟩ : MethodName)) (z := (⟨"com/example/arcwise/arcwise/adaptation/History", "sinceWipeOut", "(I)J"⟩ : MethodName)) hown (mvT hZ (hw _ (List.mem_of_getElem? (i := 57) rfl))) (mvT hZ (hw _ (List.mem_of_getElem? (i := 58) rfl))) (notFace_of_selects (args := #[]) (mvT hZ (hw _ (List.mem_of_getElem? (i := 60) rfl)))) (mvT hZ (hw _ (List.mem_of_getElem? (i := 60) rfl))) (mvT hZ (hw _ (List.mem_of_getElem? (i := 59) rfl))) (by decide) (backOf (W := 0) (own_rm11_1 l Z a0 hw [] b598 b600_0 b600_1 k600_0 ((0 : Int64) + (1 : Int64)) (((0 : Int64) + (1 : Int64)) + (1 : Int64)) k600_1 (own_G6_0_w_o0_lastWipeOut_0 (own_F1 p4 (7 : Int32)) (0 : Int64) (-1 : Int64)) (own_G6_1_w_o0_lastWipeOut_1 (own_F1 p4 (4 : Int32)) ((0 : Int64) + (1 : Int64)) (own_G6_1_w_o0_lastWipeOut_1 (own_F1 p4 (1 : Int32)) (0 : Int64) (-1 : Int64))) T619.heap n0 Z626 Q600_620 Q600_621 Q600_622 Q619_0 Q619_1) hZ (hw _ (List.mem_of_getElem? (i := 61) rfl)) (hw _ (List.mem_of_getElem? (i := 6) rfl)) (by decide) (by decide)) q659a q659c (g := (mkF m 272 #[.val (.int p0), .val (.int p1), .val (.int p2), .val (.int p3), .val (.int p4), .val (.int (1 : Int32)), .val (.int (0 : Int32)), .val (.int (own_F1 p4 (0 : Int32))), .val (.int (own_F1 p4 (1 : Int32))), .val (.int (own_F1 p4 (2 : Int32))), .val (.int (own_F1 p4 (3 : Int32))), .val (.int (own_F1 p4 (4 : Int32))), .val (.int (own_F1 p4 (5 : Int32))), .val (.int (own_F1 p4 (6 : Int32))), .val (.int (own_F1 p4 (7 : Int32))), .val (.int (own_F1 p4 (8 : Int32))), .val (.ref b598), .val (.long (own_F7 (own_F1 p4 (3 : Int32)) (own_F1 p4 (0 : Int32)))), .second, .val (.long (own_F7 (own_F1 p4 (4 : Int32)) (own_F1 p4 (1 : Int32)))), .second, .val (.long (own_F7 (own_M0_158 p4) (own_M0_173 p4))), .second, .val (.long (own_F7 (own_F1 p4 (6 : Int32)) (0 : Int32))), .second, .val (.long (own_F7 (own_M0_201 p4) (0 : Int32))), .second, .val (.int (1 : Int32))] [(.int (1 : Int32)), (.ref b598)])) rfl (by rw [hml]; rfl) (Steps.refl _) (argsL := [(.int (1 : Int32))]) (rest := []) (lenOf own_pd8 rfl) rfl (by show 2 * 0 + _ ≤ _; exact Nat.le_of_eq rfl) (hb hby at_272) (fun _ _ => ⟨rfl, e657, (by decide : 6 + 0 ≤ _), (by decide : 15 + 0 ≤ _)⟩))
    obtain ⟨-, -, e659⟩ := hQ659
    refine own_via st659 ?_
    show own_End p e below s _ _ _ (T659.setTop (mkF m 275 #[.val (.int p0), .val (.int p1), .val (.int p2), .val (.int p3), .val (.int p4), .val (.int (1 : Int32)), .val (.int (0 : Int32)), .val (.int (own_F1 p4 (0 : Int32))), .val (.int (own_F1 p4 (1 : Int32))), .val (.int (own_F1 p4 (2 : Int32))), .val (.int (own_F1 p4 (3 : Int32))), .val (.int (own_F1 p4 (4 : Int32))), .val (.int (own_F1 p4 (5 : Int32))), .val (.int (own_F1 p4 (6 : Int32))), .val (.int (own_F1 p4 (7 : Int32))), .val (.int (own_F1 p4 (8 : Int32))), .val (.ref b598), .val (.long (own_F7 (own_F1 p4 (3 : Int32)) (own_F1 p4 (0 : Int32)))), .second, .val (.long (own_F7 (own_F1 p4 (4 : Int32)) (own_F1 p4 (1 : Int32)))), .second, .val (.long (own_F7 (own_M0_158 p4) (own_M0_173 p4))), .second, .val (.long (own_F7 (own_F1 p4 (6 : Int32)) (0 : Int32))), .second, .val (.long (own_F7 (own_M0_201 p4) (0 : Int32))), .second, .val (.int (1 : Int32))] [(.long (own_F10_1 (((0 : Int64) + (1 : Int64)) + (1 : Int64)) (own_G6_1_w_o0_lastWipeOut_1 (own_F1 p4 (4 : Int32)) ((0 : Int64) + (1 : Int64)) (own_G6_1_w_o0_lastWipeOut_1 (own_F1 p4 (1 : Int32)) (0 : Int64) (-1 : Int64)))))]))
    refine own_lload X659 hx (hb hby at_275) rfl (q := 277) rfl ?_
    have hk660 : (own_F10_1 (((0 : Int64) + (1 : Int64)) + (1 : Int64)) (own_G6_1_w_o0_lastWipeOut_1 (own_F1 p4 (4 : Int32)) ((0 : Int64) + (1 : Int64)) (own_G6_1_w_o0_lastWipeOut_1 (own_F1 p4 (1 : Int32)) (0 : Int64) (-1 : Int64)))) = (own_F7 (own_F1 p4 (4 : Int32)) (own_F1 p4 (1 : Int32))) := by rcases own_bit p4 4 with t4 | t4 <;> rcases own_bit p4 1 with t1 | t1 <;> simp only [t4, t1] <;> decide
    refine own_lcN X659 hx (hb hby at_277) (r := 278) rfl (hb hby at_278) (own_teq hk660).2 (q := 281) rfl ?_
    refine own_iconst X659 hx (hb hby at_281) (z := 1) rfl (q := 282) rfl ?_
    refine own_goto X659 hx (hb hby at_282) (q := 286) (by decide) (by decide) ?_
    refine own_istore X659 hx (hb hby at_286) (l' := #[.val (.int p0), .val (.int p1), .val (.int p2), .val (.int p3), .val (.int p4), .val (.int (1 : Int32)), .val (.int (0 : Int32)), .val (.int (own_F1 p4 (0 : Int32))), .val (.int (own_F1 p4 (1 : Int32))), .val (.int (own_F1 p4 (2 : Int32))), .val (.int (own_F1 p4 (3 : Int32))), .val (.int (own_F1 p4 (4 : Int32))), .val (.int (own_F1 p4 (5 : Int32))), .val (.int (own_F1 p4 (6 : Int32))), .val (.int (own_F1 p4 (7 : Int32))), .val (.int (own_F1 p4 (8 : Int32))), .val (.ref b598), .val (.long (own_F7 (own_F1 p4 (3 : Int32)) (own_F1 p4 (0 : Int32)))), .second, .val (.long (own_F7 (own_F1 p4 (4 : Int32)) (own_F1 p4 (1 : Int32)))), .second, .val (.long (own_F7 (own_M0_158 p4) (own_M0_173 p4))), .second, .val (.long (own_F7 (own_F1 p4 (6 : Int32)) (0 : Int32))), .second, .val (.long (own_F7 (own_M0_201 p4) (0 : Int32))), .second, .val (.int (1 : Int32))]) rfl (q := 288) rfl ?_
    refine own_iload X659 hx (hb hby at_288) rfl (q := 290) rfl ?_
    refine own_ifN X659 hx (hb hby at_290) (feq (by decide : ¬ ((1 : Int32) = (0 : Int32)))).1 (q := 293) rfl ?_
    refine own_aload X659 hx (hb hby at_293) rfl rfl (q := 295) rfl ?_
    refine own_iload X659 hx (hb hby at_295) rfl (q := 297) rfl ?_
    obtain ⟨cq661, kq661, q661a, q661b, q661c⟩ := isOf hZ e659 Q600_620
    obtain ⟨T661, Lc661, L661, X661, N661, hQ661, st661⟩ := own_shutV (val := some (.long (own_F10_1 (((0 : Int64) + (1 : Int64)) + (1 : Int64)) (own_G6_1_w_o0_lastStrongRemoval_1 (own_F1 p4 (4 : Int32)) (own_F1 p4 (5 : Int32)) ((0 : Int64) + (1 : Int64)) (own_G6_1_w_o0_lastStrongRemoval_1 (own_F1 p4 (1 : Int32)) (own_F1 p4 (2 : Int32)) (0 : Int64) (-1 : Int64)))))) (Q := own_Q12_1 Z b598 b600_0 b600_3 k600_0 ((0 : Int64) + (1 : Int64)) (((0 : Int64) + (1 : Int64)) + (1 : Int64)) k600_3 (own_G6_0_w_o0_lastStrongRemoval_0 (own_F1 p4 (7 : Int32)) (own_F1 p4 (8 : Int32)) (0 : Int64) (-1 : Int64)) (own_G6_1_w_o0_lastStrongRemoval_1 (own_F1 p4 (4 : Int32)) (own_F1 p4 (5 : Int32)) ((0 : Int64) + (1 : Int64)) (own_G6_1_w_o0_lastStrongRemoval_1 (own_F1 p4 (1 : Int32)) (own_F1 p4 (2 : Int32)) (0 : Int64) (-1 : Int64))) T619.heap n0) (rc := 0) (rs := 0) N659 (fun _ _ _ q => ⟨q.1, q.2.1⟩) (X659.virtualBack hx (y := (⟨"com/example/arcwise/arcwise/adaptation/History", "sinceStrongRemoval", "(I)J"⟩ : MethodName)) (z := (⟨"com/example/arcwise/arcwise/adaptation/History", "sinceStrongRemoval", "(I)J"⟩ : MethodName)) hown (mvT hZ (hw _ (List.mem_of_getElem? (i := 62) rfl))) (mvT hZ (hw _ (List.mem_of_getElem? (i := 63) rfl))) (notFace_of_selects (args := #[]) (mvT hZ (hw _ (List.mem_of_getElem? (i := 65) rfl)))) (mvT hZ (hw _ (List.mem_of_getElem? (i := 65) rfl))) (mvT hZ (hw _ (List.mem_of_getElem? (i := 64) rfl))) (by decide) (backOf (W := 0) (own_rm12_1 l Z a0 hw [] b598 b600_0 b600_3 k600_0 ((0 : Int64) + (1 : Int64)) (((0 : Int64) + (1 : Int64)) + (1 : Int64)) k600_3 (own_G6_0_w_o0_lastStrongRemoval_0 (own_F1 p4 (7 : Int32)) (own_F1 p4 (8 : Int32)) (0 : Int64) (-1 : Int64)) (own_G6_1_w_o0_lastStrongRemoval_1 (own_F1 p4 (4 : Int32)) (own_F1 p4 (5 : Int32)) ((0 : Int64) + (1 : Int64)) (own_G6_1_w_o0_lastStrongRemoval_1 (own_F1 p4 (1 : Int32)) (own_F1 p4 (2 : Int32)) (0 : Int64) (-1 : Int64))) T619.heap n0 Z626 Q600_620 Q600_621 Q600_624 Q619_0 Q619_3) hZ (hw _ (List.mem_of_getElem? (i := 66) rfl)) (hw _ (List.mem_of_getElem? (i := 6) rfl)) (by decide) (by decide)) q661a q661c (g := (mkF m 297 #[.val (.int p0), .val (.int p1), .val (.int p2), .val (.int p3), .val (.int p4), .val (.int (1 : Int32)), .val (.int (0 : Int32)), .val (.int (own_F1 p4 (0 : Int32))), .val (.int (own_F1 p4 (1 : Int32))), .val (.int (own_F1 p4 (2 : Int32))), .val (.int (own_F1 p4 (3 : Int32))), .val (.int (own_F1 p4 (4 : Int32))), .val (.int (own_F1 p4 (5 : Int32))), .val (.int (own_F1 p4 (6 : Int32))), .val (.int (own_F1 p4 (7 : Int32))), .val (.int (own_F1 p4 (8 : Int32))), .val (.ref b598), .val (.long (own_F7 (own_F1 p4 (3 : Int32)) (own_F1 p4 (0 : Int32)))), .second, .val (.long (own_F7 (own_F1 p4 (4 : Int32)) (own_F1 p4 (1 : Int32)))), .second, .val (.long (own_F7 (own_M0_158 p4) (own_M0_173 p4))), .second, .val (.long (own_F7 (own_F1 p4 (6 : Int32)) (0 : Int32))), .second, .val (.long (own_F7 (own_M0_201 p4) (0 : Int32))), .second, .val (.int (1 : Int32))] [(.int (1 : Int32)), (.ref b598)])) rfl (by rw [hml]; rfl) (Steps.refl _) (argsL := [(.int (1 : Int32))]) (rest := []) (lenOf own_pd8 rfl) rfl (by show 2 * 0 + _ ≤ _; exact Nat.le_of_eq rfl) (hb hby at_297) (fun _ _ => ⟨rfl, e659, (by decide : 6 + 0 ≤ _), (by decide : 15 + 0 ≤ _)⟩))
    obtain ⟨-, -, e661⟩ := hQ661
    refine own_via st661 ?_
    show own_End p e below s _ _ _ (T661.setTop (mkF m 300 #[.val (.int p0), .val (.int p1), .val (.int p2), .val (.int p3), .val (.int p4), .val (.int (1 : Int32)), .val (.int (0 : Int32)), .val (.int (own_F1 p4 (0 : Int32))), .val (.int (own_F1 p4 (1 : Int32))), .val (.int (own_F1 p4 (2 : Int32))), .val (.int (own_F1 p4 (3 : Int32))), .val (.int (own_F1 p4 (4 : Int32))), .val (.int (own_F1 p4 (5 : Int32))), .val (.int (own_F1 p4 (6 : Int32))), .val (.int (own_F1 p4 (7 : Int32))), .val (.int (own_F1 p4 (8 : Int32))), .val (.ref b598), .val (.long (own_F7 (own_F1 p4 (3 : Int32)) (own_F1 p4 (0 : Int32)))), .second, .val (.long (own_F7 (own_F1 p4 (4 : Int32)) (own_F1 p4 (1 : Int32)))), .second, .val (.long (own_F7 (own_M0_158 p4) (own_M0_173 p4))), .second, .val (.long (own_F7 (own_F1 p4 (6 : Int32)) (0 : Int32))), .second, .val (.long (own_F7 (own_M0_201 p4) (0 : Int32))), .second, .val (.int (1 : Int32))] [(.long (own_F10_1 (((0 : Int64) + (1 : Int64)) + (1 : Int64)) (own_G6_1_w_o0_lastStrongRemoval_1 (own_F1 p4 (4 : Int32)) (own_F1 p4 (5 : Int32)) ((0 : Int64) + (1 : Int64)) (own_G6_1_w_o0_lastStrongRemoval_1 (own_F1 p4 (1 : Int32)) (own_F1 p4 (2 : Int32)) (0 : Int64) (-1 : Int64)))))]))
    refine own_lload X661 hx (hb hby at_300) rfl (q := 302) rfl ?_
    have hk662 : (own_F10_1 (((0 : Int64) + (1 : Int64)) + (1 : Int64)) (own_G6_1_w_o0_lastStrongRemoval_1 (own_F1 p4 (4 : Int32)) (own_F1 p4 (5 : Int32)) ((0 : Int64) + (1 : Int64)) (own_G6_1_w_o0_lastStrongRemoval_1 (own_F1 p4 (1 : Int32)) (own_F1 p4 (2 : Int32)) (0 : Int64) (-1 : Int64)))) = (own_F7 (own_M0_158 p4) (own_M0_173 p4)) := by rw [own_M0_158, own_M0_163, own_M0_173, own_M0_178]; rcases own_bit p4 4 with t4 | t4 <;> rcases own_bit p4 5 with t5 | t5 <;> rcases own_bit p4 1 with t1 | t1 <;> rcases own_bit p4 2 with t2 | t2 <;> simp only [t4, t5, t1, t2] <;> decide
    refine own_lcN X661 hx (hb hby at_302) (r := 303) rfl (hb hby at_303) (own_teq hk662).2 (q := 306) rfl ?_
    refine own_iconst X661 hx (hb hby at_306) (z := 1) rfl (q := 307) rfl ?_
    refine own_goto X661 hx (hb hby at_307) (q := 311) (by decide) (by decide) ?_
    refine own_istore X661 hx (hb hby at_311) (l' := #[.val (.int p0), .val (.int p1), .val (.int p2), .val (.int p3), .val (.int p4), .val (.int (1 : Int32)), .val (.int (0 : Int32)), .val (.int (own_F1 p4 (0 : Int32))), .val (.int (own_F1 p4 (1 : Int32))), .val (.int (own_F1 p4 (2 : Int32))), .val (.int (own_F1 p4 (3 : Int32))), .val (.int (own_F1 p4 (4 : Int32))), .val (.int (own_F1 p4 (5 : Int32))), .val (.int (own_F1 p4 (6 : Int32))), .val (.int (own_F1 p4 (7 : Int32))), .val (.int (own_F1 p4 (8 : Int32))), .val (.ref b598), .val (.long (own_F7 (own_F1 p4 (3 : Int32)) (own_F1 p4 (0 : Int32)))), .second, .val (.long (own_F7 (own_F1 p4 (4 : Int32)) (own_F1 p4 (1 : Int32)))), .second, .val (.long (own_F7 (own_M0_158 p4) (own_M0_173 p4))), .second, .val (.long (own_F7 (own_F1 p4 (6 : Int32)) (0 : Int32))), .second, .val (.long (own_F7 (own_M0_201 p4) (0 : Int32))), .second, .val (.int (1 : Int32))]) rfl (q := 313) rfl ?_
    refine own_iload X661 hx (hb hby at_313) rfl (q := 315) rfl ?_
    refine own_ifN X661 hx (hb hby at_315) (feq (by decide : ¬ ((1 : Int32) = (0 : Int32)))).1 (q := 318) rfl ?_
    refine own_aload X661 hx (hb hby at_318) rfl rfl (q := 320) rfl ?_
    refine own_iload X661 hx (hb hby at_320) rfl (q := 322) rfl ?_
    obtain ⟨cq663, kq663, q663a, q663b, q663c⟩ := isOf hZ e661 Q600_620
    obtain ⟨T663, Lc663, L663, X663, N663, hQ663, st663⟩ := own_shutV (val := some (.int p3)) (Q := own_Q8_0 Z b598 b600_4 k600_4 p3 p2 T619.heap n0) (rc := 0) (rs := 0) N661 (fun _ _ _ q => ⟨q.1, q.2.1⟩) (X661.virtualBack hx (y := (⟨"com/example/arcwise/arcwise/adaptation/History", "lastPosition", "(I)I"⟩ : MethodName)) (z := (⟨"com/example/arcwise/arcwise/adaptation/History", "lastPosition", "(I)I"⟩ : MethodName)) hown (mvT hZ (hw _ (List.mem_of_getElem? (i := 42) rfl))) (mvT hZ (hw _ (List.mem_of_getElem? (i := 43) rfl))) (notFace_of_selects (args := #[]) (mvT hZ (hw _ (List.mem_of_getElem? (i := 45) rfl)))) (mvT hZ (hw _ (List.mem_of_getElem? (i := 45) rfl))) (mvT hZ (hw _ (List.mem_of_getElem? (i := 44) rfl))) (by decide) (backOf (W := 0) (own_rm8_0 l Z a0 hw [] b598 b600_4 k600_4 p3 p2 T619.heap n0 Z626 Q600_620 Q600_625 Q619_4) hZ (hw _ (List.mem_of_getElem? (i := 46) rfl)) (hw _ (List.mem_of_getElem? (i := 6) rfl)) (by decide) (by decide)) q663a q663c (g := (mkF m 322 #[.val (.int p0), .val (.int p1), .val (.int p2), .val (.int p3), .val (.int p4), .val (.int (1 : Int32)), .val (.int (0 : Int32)), .val (.int (own_F1 p4 (0 : Int32))), .val (.int (own_F1 p4 (1 : Int32))), .val (.int (own_F1 p4 (2 : Int32))), .val (.int (own_F1 p4 (3 : Int32))), .val (.int (own_F1 p4 (4 : Int32))), .val (.int (own_F1 p4 (5 : Int32))), .val (.int (own_F1 p4 (6 : Int32))), .val (.int (own_F1 p4 (7 : Int32))), .val (.int (own_F1 p4 (8 : Int32))), .val (.ref b598), .val (.long (own_F7 (own_F1 p4 (3 : Int32)) (own_F1 p4 (0 : Int32)))), .second, .val (.long (own_F7 (own_F1 p4 (4 : Int32)) (own_F1 p4 (1 : Int32)))), .second, .val (.long (own_F7 (own_M0_158 p4) (own_M0_173 p4))), .second, .val (.long (own_F7 (own_F1 p4 (6 : Int32)) (0 : Int32))), .second, .val (.long (own_F7 (own_M0_201 p4) (0 : Int32))), .second, .val (.int (1 : Int32))] [(.int (0 : Int32)), (.ref b598)])) rfl (by rw [hml]; rfl) (Steps.refl _) (argsL := [(.int (0 : Int32))]) (rest := []) (lenOf own_pd7 rfl) rfl (by show 2 * 0 + _ ≤ _; exact Nat.le_of_eq rfl) (hb hby at_322) (fun _ _ => ⟨rfl, e661, (by decide : 6 + 0 ≤ _), (by decide : 15 + 0 ≤ _)⟩))
    obtain ⟨-, -, e663⟩ := hQ663
    refine own_via st663 ?_
    show own_End p e below s _ _ _ (T663.setTop (mkF m 325 #[.val (.int p0), .val (.int p1), .val (.int p2), .val (.int p3), .val (.int p4), .val (.int (1 : Int32)), .val (.int (0 : Int32)), .val (.int (own_F1 p4 (0 : Int32))), .val (.int (own_F1 p4 (1 : Int32))), .val (.int (own_F1 p4 (2 : Int32))), .val (.int (own_F1 p4 (3 : Int32))), .val (.int (own_F1 p4 (4 : Int32))), .val (.int (own_F1 p4 (5 : Int32))), .val (.int (own_F1 p4 (6 : Int32))), .val (.int (own_F1 p4 (7 : Int32))), .val (.int (own_F1 p4 (8 : Int32))), .val (.ref b598), .val (.long (own_F7 (own_F1 p4 (3 : Int32)) (own_F1 p4 (0 : Int32)))), .second, .val (.long (own_F7 (own_F1 p4 (4 : Int32)) (own_F1 p4 (1 : Int32)))), .second, .val (.long (own_F7 (own_M0_158 p4) (own_M0_173 p4))), .second, .val (.long (own_F7 (own_F1 p4 (6 : Int32)) (0 : Int32))), .second, .val (.long (own_F7 (own_M0_201 p4) (0 : Int32))), .second, .val (.int (1 : Int32))] [(.int p3)]))
    refine own_iloadN X663 hx (hb hby at_325) rfl (q := 326) rfl ?_
    refine own_icN X663 hx (hb hby at_326) (teq (rfl : p3 = p3)).2 (q := 329) rfl ?_
    refine own_iconst X663 hx (hb hby at_329) (z := 1) rfl (q := 330) rfl ?_
    refine own_goto X663 hx (hb hby at_330) (q := 334) (by decide) (by decide) ?_
    refine own_istore X663 hx (hb hby at_334) (l' := #[.val (.int p0), .val (.int p1), .val (.int p2), .val (.int p3), .val (.int p4), .val (.int (1 : Int32)), .val (.int (0 : Int32)), .val (.int (own_F1 p4 (0 : Int32))), .val (.int (own_F1 p4 (1 : Int32))), .val (.int (own_F1 p4 (2 : Int32))), .val (.int (own_F1 p4 (3 : Int32))), .val (.int (own_F1 p4 (4 : Int32))), .val (.int (own_F1 p4 (5 : Int32))), .val (.int (own_F1 p4 (6 : Int32))), .val (.int (own_F1 p4 (7 : Int32))), .val (.int (own_F1 p4 (8 : Int32))), .val (.ref b598), .val (.long (own_F7 (own_F1 p4 (3 : Int32)) (own_F1 p4 (0 : Int32)))), .second, .val (.long (own_F7 (own_F1 p4 (4 : Int32)) (own_F1 p4 (1 : Int32)))), .second, .val (.long (own_F7 (own_M0_158 p4) (own_M0_173 p4))), .second, .val (.long (own_F7 (own_F1 p4 (6 : Int32)) (0 : Int32))), .second, .val (.long (own_F7 (own_M0_201 p4) (0 : Int32))), .second, .val (.int (1 : Int32))]) rfl (q := 336) rfl ?_
    refine own_iload X663 hx (hb hby at_336) rfl (q := 338) rfl ?_
    refine own_ifN X663 hx (hb hby at_338) (feq (by decide : ¬ ((1 : Int32) = (0 : Int32)))).1 (q := 341) rfl ?_
    refine own_aload X663 hx (hb hby at_341) rfl rfl (q := 343) rfl ?_
    refine own_iload X663 hx (hb hby at_343) rfl (q := 345) rfl ?_
    obtain ⟨cq664, kq664, q664a, q664b, q664c⟩ := isOf hZ e663 Q600_620
    obtain ⟨T664, Lc664, L664, X664, N664, hQ664, st664⟩ := own_shutV (val := some (.long (own_F10_0 ((0 : Int64) + (1 : Int64)) (own_G6_0_w_o0_lastRemoval_0 (own_F1 p4 (6 : Int32)) (0 : Int64) (-1 : Int64))))) (Q := own_Q9_0 Z b598 b600_0 b600_2 k600_0 ((0 : Int64) + (1 : Int64)) (((0 : Int64) + (1 : Int64)) + (1 : Int64)) k600_2 (own_G6_0_w_o0_lastRemoval_0 (own_F1 p4 (6 : Int32)) (0 : Int64) (-1 : Int64)) (own_G6_1_w_o0_lastRemoval_1 (own_F1 p4 (3 : Int32)) ((0 : Int64) + (1 : Int64)) (own_G6_1_w_o0_lastRemoval_1 (own_F1 p4 (0 : Int32)) (0 : Int64) (-1 : Int64))) T619.heap n0) (rc := 0) (rs := 0) N663 (fun _ _ _ q => ⟨q.1, q.2.1⟩) (X663.virtualBack hx (y := (⟨"com/example/arcwise/arcwise/adaptation/History", "sinceRemoval", "(I)J"⟩ : MethodName)) (z := (⟨"com/example/arcwise/arcwise/adaptation/History", "sinceRemoval", "(I)J"⟩ : MethodName)) hown (mvT hZ (hw _ (List.mem_of_getElem? (i := 47) rfl))) (mvT hZ (hw _ (List.mem_of_getElem? (i := 48) rfl))) (notFace_of_selects (args := #[]) (mvT hZ (hw _ (List.mem_of_getElem? (i := 50) rfl)))) (mvT hZ (hw _ (List.mem_of_getElem? (i := 50) rfl))) (mvT hZ (hw _ (List.mem_of_getElem? (i := 49) rfl))) (by decide) (backOf (W := 0) (own_rm9_0 l Z a0 hw [] b598 b600_0 b600_2 k600_0 ((0 : Int64) + (1 : Int64)) (((0 : Int64) + (1 : Int64)) + (1 : Int64)) k600_2 (own_G6_0_w_o0_lastRemoval_0 (own_F1 p4 (6 : Int32)) (0 : Int64) (-1 : Int64)) (own_G6_1_w_o0_lastRemoval_1 (own_F1 p4 (3 : Int32)) ((0 : Int64) + (1 : Int64)) (own_G6_1_w_o0_lastRemoval_1 (own_F1 p4 (0 : Int32)) (0 : Int64) (-1 : Int64))) T619.heap n0 Z626 Q600_620 Q600_621 Q600_623 Q619_0 Q619_2) hZ (hw _ (List.mem_of_getElem? (i := 51) rfl)) (hw _ (List.mem_of_getElem? (i := 6) rfl)) (by decide) (by decide)) q664a q664c (g := (mkF m 345 #[.val (.int p0), .val (.int p1), .val (.int p2), .val (.int p3), .val (.int p4), .val (.int (1 : Int32)), .val (.int (0 : Int32)), .val (.int (own_F1 p4 (0 : Int32))), .val (.int (own_F1 p4 (1 : Int32))), .val (.int (own_F1 p4 (2 : Int32))), .val (.int (own_F1 p4 (3 : Int32))), .val (.int (own_F1 p4 (4 : Int32))), .val (.int (own_F1 p4 (5 : Int32))), .val (.int (own_F1 p4 (6 : Int32))), .val (.int (own_F1 p4 (7 : Int32))), .val (.int (own_F1 p4 (8 : Int32))), .val (.ref b598), .val (.long (own_F7 (own_F1 p4 (3 : Int32)) (own_F1 p4 (0 : Int32)))), .second, .val (.long (own_F7 (own_F1 p4 (4 : Int32)) (own_F1 p4 (1 : Int32)))), .second, .val (.long (own_F7 (own_M0_158 p4) (own_M0_173 p4))), .second, .val (.long (own_F7 (own_F1 p4 (6 : Int32)) (0 : Int32))), .second, .val (.long (own_F7 (own_M0_201 p4) (0 : Int32))), .second, .val (.int (1 : Int32))] [(.int (0 : Int32)), (.ref b598)])) rfl (by rw [hml]; rfl) (Steps.refl _) (argsL := [(.int (0 : Int32))]) (rest := []) (lenOf own_pd8 rfl) rfl (by show 2 * 0 + _ ≤ _; exact Nat.le_of_eq rfl) (hb hby at_345) (fun _ _ => ⟨rfl, e663, (by decide : 6 + 0 ≤ _), (by decide : 15 + 0 ≤ _)⟩))
    obtain ⟨-, -, e664⟩ := hQ664
    refine own_via st664 ?_
    show own_End p e below s _ _ _ (T664.setTop (mkF m 348 #[.val (.int p0), .val (.int p1), .val (.int p2), .val (.int p3), .val (.int p4), .val (.int (1 : Int32)), .val (.int (0 : Int32)), .val (.int (own_F1 p4 (0 : Int32))), .val (.int (own_F1 p4 (1 : Int32))), .val (.int (own_F1 p4 (2 : Int32))), .val (.int (own_F1 p4 (3 : Int32))), .val (.int (own_F1 p4 (4 : Int32))), .val (.int (own_F1 p4 (5 : Int32))), .val (.int (own_F1 p4 (6 : Int32))), .val (.int (own_F1 p4 (7 : Int32))), .val (.int (own_F1 p4 (8 : Int32))), .val (.ref b598), .val (.long (own_F7 (own_F1 p4 (3 : Int32)) (own_F1 p4 (0 : Int32)))), .second, .val (.long (own_F7 (own_F1 p4 (4 : Int32)) (own_F1 p4 (1 : Int32)))), .second, .val (.long (own_F7 (own_M0_158 p4) (own_M0_173 p4))), .second, .val (.long (own_F7 (own_F1 p4 (6 : Int32)) (0 : Int32))), .second, .val (.long (own_F7 (own_M0_201 p4) (0 : Int32))), .second, .val (.int (1 : Int32))] [(.long (own_F10_0 ((0 : Int64) + (1 : Int64)) (own_G6_0_w_o0_lastRemoval_0 (own_F1 p4 (6 : Int32)) (0 : Int64) (-1 : Int64))))]))
    refine own_lload X664 hx (hb hby at_348) rfl (q := 350) rfl ?_
    have hk665 : (own_F10_0 ((0 : Int64) + (1 : Int64)) (own_G6_0_w_o0_lastRemoval_0 (own_F1 p4 (6 : Int32)) (0 : Int64) (-1 : Int64))) = (own_F7 (own_F1 p4 (6 : Int32)) (0 : Int32)) := by rcases own_bit p4 6 with t6 | t6 <;> simp only [t6] <;> decide
    refine own_lcN X664 hx (hb hby at_350) (r := 351) rfl (hb hby at_351) (own_teq hk665).2 (q := 354) rfl ?_
    refine own_iconst X664 hx (hb hby at_354) (z := 1) rfl (q := 355) rfl ?_
    refine own_goto X664 hx (hb hby at_355) (q := 359) (by decide) (by decide) ?_
    refine own_istore X664 hx (hb hby at_359) (l' := #[.val (.int p0), .val (.int p1), .val (.int p2), .val (.int p3), .val (.int p4), .val (.int (1 : Int32)), .val (.int (0 : Int32)), .val (.int (own_F1 p4 (0 : Int32))), .val (.int (own_F1 p4 (1 : Int32))), .val (.int (own_F1 p4 (2 : Int32))), .val (.int (own_F1 p4 (3 : Int32))), .val (.int (own_F1 p4 (4 : Int32))), .val (.int (own_F1 p4 (5 : Int32))), .val (.int (own_F1 p4 (6 : Int32))), .val (.int (own_F1 p4 (7 : Int32))), .val (.int (own_F1 p4 (8 : Int32))), .val (.ref b598), .val (.long (own_F7 (own_F1 p4 (3 : Int32)) (own_F1 p4 (0 : Int32)))), .second, .val (.long (own_F7 (own_F1 p4 (4 : Int32)) (own_F1 p4 (1 : Int32)))), .second, .val (.long (own_F7 (own_M0_158 p4) (own_M0_173 p4))), .second, .val (.long (own_F7 (own_F1 p4 (6 : Int32)) (0 : Int32))), .second, .val (.long (own_F7 (own_M0_201 p4) (0 : Int32))), .second, .val (.int (1 : Int32))]) rfl (q := 361) rfl ?_
    refine own_iload X664 hx (hb hby at_361) rfl (q := 363) rfl ?_
    refine own_ifN X664 hx (hb hby at_363) (feq (by decide : ¬ ((1 : Int32) = (0 : Int32)))).1 (q := 366) rfl ?_
    refine own_aload X664 hx (hb hby at_366) rfl rfl (q := 368) rfl ?_
    refine own_iload X664 hx (hb hby at_368) rfl (q := 370) rfl ?_
    obtain ⟨cq666, kq666, q666a, q666b, q666c⟩ := isOf hZ e664 Q600_620
    obtain ⟨T666, Lc666, L666, X666, N666, hQ666, st666⟩ := own_shutV (val := some (.long (own_F10_0 ((0 : Int64) + (1 : Int64)) (own_G6_0_w_o0_lastStrongRemoval_0 (own_F1 p4 (7 : Int32)) (own_F1 p4 (8 : Int32)) (0 : Int64) (-1 : Int64))))) (Q := own_Q12_0 Z b598 b600_0 b600_3 k600_0 ((0 : Int64) + (1 : Int64)) (((0 : Int64) + (1 : Int64)) + (1 : Int64)) k600_3 (own_G6_0_w_o0_lastStrongRemoval_0 (own_F1 p4 (7 : Int32)) (own_F1 p4 (8 : Int32)) (0 : Int64) (-1 : Int64)) (own_G6_1_w_o0_lastStrongRemoval_1 (own_F1 p4 (4 : Int32)) (own_F1 p4 (5 : Int32)) ((0 : Int64) + (1 : Int64)) (own_G6_1_w_o0_lastStrongRemoval_1 (own_F1 p4 (1 : Int32)) (own_F1 p4 (2 : Int32)) (0 : Int64) (-1 : Int64))) T619.heap n0) (rc := 0) (rs := 0) N664 (fun _ _ _ q => ⟨q.1, q.2.1⟩) (X664.virtualBack hx (y := (⟨"com/example/arcwise/arcwise/adaptation/History", "sinceStrongRemoval", "(I)J"⟩ : MethodName)) (z := (⟨"com/example/arcwise/arcwise/adaptation/History", "sinceStrongRemoval", "(I)J"⟩ : MethodName)) hown (mvT hZ (hw _ (List.mem_of_getElem? (i := 62) rfl))) (mvT hZ (hw _ (List.mem_of_getElem? (i := 63) rfl))) (notFace_of_selects (args := #[]) (mvT hZ (hw _ (List.mem_of_getElem? (i := 65) rfl)))) (mvT hZ (hw _ (List.mem_of_getElem? (i := 65) rfl))) (mvT hZ (hw _ (List.mem_of_getElem? (i := 64) rfl))) (by decide) (backOf (W := 0) (own_rm12_0 l Z a0 hw [] b598 b600_0 b600_3 k600_0 ((0 : Int64) + (1 : Int64)) (((0 : Int64) + (1 : Int64)) + (1 : Int64)) k600_3 (own_G6_0_w_o0_lastStrongRemoval_0 (own_F1 p4 (7 : Int32)) (own_F1 p4 (8 : Int32)) (0 : Int64) (-1 : Int64)) (own_G6_1_w_o0_lastStrongRemoval_1 (own_F1 p4 (4 : Int32)) (own_F1 p4 (5 : Int32)) ((0 : Int64) + (1 : Int64)) (own_G6_1_w_o0_lastStrongRemoval_1 (own_F1 p4 (1 : Int32)) (own_F1 p4 (2 : Int32)) (0 : Int64) (-1 : Int64))) T619.heap n0 Z626 Q600_620 Q600_621 Q600_624 Q619_0 Q619_3) hZ (hw _ (List.mem_of_getElem? (i := 66) rfl)) (hw _ (List.mem_of_getElem? (i := 6) rfl)) (by decide) (by decide)) q666a q666c (g := (mkF m 370 #[.val (.int p0), .val (.int p1), .val (.int p2), .val (.int p3), .val (.int p4), .val (.int (1 : Int32)), .val (.int (0 : Int32)), .val (.int (own_F1 p4 (0 : Int32))), .val (.int (own_F1 p4 (1 : Int32))), .val (.int (own_F1 p4 (2 : Int32))), .val (.int (own_F1 p4 (3 : Int32))), .val (.int (own_F1 p4 (4 : Int32))), .val (.int (own_F1 p4 (5 : Int32))), .val (.int (own_F1 p4 (6 : Int32))), .val (.int (own_F1 p4 (7 : Int32))), .val (.int (own_F1 p4 (8 : Int32))), .val (.ref b598), .val (.long (own_F7 (own_F1 p4 (3 : Int32)) (own_F1 p4 (0 : Int32)))), .second, .val (.long (own_F7 (own_F1 p4 (4 : Int32)) (own_F1 p4 (1 : Int32)))), .second, .val (.long (own_F7 (own_M0_158 p4) (own_M0_173 p4))), .second, .val (.long (own_F7 (own_F1 p4 (6 : Int32)) (0 : Int32))), .second, .val (.long (own_F7 (own_M0_201 p4) (0 : Int32))), .second, .val (.int (1 : Int32))] [(.int (0 : Int32)), (.ref b598)])) rfl (by rw [hml]; rfl) (Steps.refl _) (argsL := [(.int (0 : Int32))]) (rest := []) (lenOf own_pd8 rfl) rfl (by show 2 * 0 + _ ≤ _; exact Nat.le_of_eq rfl) (hb hby at_370) (fun _ _ => ⟨rfl, e664, (by decide : 6 + 0 ≤ _), (by decide : 15 + 0 ≤ _)⟩))
    obtain ⟨-, -, e666⟩ := hQ666
    refine own_via st666 ?_
    show own_End p e below s _ _ _ (T666.setTop (mkF m 373 #[.val (.int p0), .val (.int p1), .val (.int p2), .val (.int p3), .val (.int p4), .val (.int (1 : Int32)), .val (.int (0 : Int32)), .val (.int (own_F1 p4 (0 : Int32))), .val (.int (own_F1 p4 (1 : Int32))), .val (.int (own_F1 p4 (2 : Int32))), .val (.int (own_F1 p4 (3 : Int32))), .val (.int (own_F1 p4 (4 : Int32))), .val (.int (own_F1 p4 (5 : Int32))), .val (.int (own_F1 p4 (6 : Int32))), .val (.int (own_F1 p4 (7 : Int32))), .val (.int (own_F1 p4 (8 : Int32))), .val (.ref b598), .val (.long (own_F7 (own_F1 p4 (3 : Int32)) (own_F1 p4 (0 : Int32)))), .second, .val (.long (own_F7 (own_F1 p4 (4 : Int32)) (own_F1 p4 (1 : Int32)))), .second, .val (.long (own_F7 (own_M0_158 p4) (own_M0_173 p4))), .second, .val (.long (own_F7 (own_F1 p4 (6 : Int32)) (0 : Int32))), .second, .val (.long (own_F7 (own_M0_201 p4) (0 : Int32))), .second, .val (.int (1 : Int32))] [(.long (own_F10_0 ((0 : Int64) + (1 : Int64)) (own_G6_0_w_o0_lastStrongRemoval_0 (own_F1 p4 (7 : Int32)) (own_F1 p4 (8 : Int32)) (0 : Int64) (-1 : Int64))))]))
    refine own_lload X666 hx (hb hby at_373) rfl (q := 375) rfl ?_
    have hk667 : (own_F10_0 ((0 : Int64) + (1 : Int64)) (own_G6_0_w_o0_lastStrongRemoval_0 (own_F1 p4 (7 : Int32)) (own_F1 p4 (8 : Int32)) (0 : Int64) (-1 : Int64))) = (own_F7 (own_M0_201 p4) (0 : Int32)) := by rw [own_M0_201, own_M0_206]; rcases own_bit p4 7 with t7 | t7 <;> rcases own_bit p4 8 with t8 | t8 <;> simp only [t7, t8] <;> decide
    refine own_lcN X666 hx (hb hby at_375) (r := 376) rfl (hb hby at_376) (own_teq hk667).2 (q := 379) rfl ?_
    refine own_iconst X666 hx (hb hby at_379) (z := 1) rfl (q := 380) rfl ?_
    refine own_goto X666 hx (hb hby at_380) (q := 384) (by decide) (by decide) ?_
    refine own_istore X666 hx (hb hby at_384) (l' := #[.val (.int p0), .val (.int p1), .val (.int p2), .val (.int p3), .val (.int p4), .val (.int (1 : Int32)), .val (.int (0 : Int32)), .val (.int (own_F1 p4 (0 : Int32))), .val (.int (own_F1 p4 (1 : Int32))), .val (.int (own_F1 p4 (2 : Int32))), .val (.int (own_F1 p4 (3 : Int32))), .val (.int (own_F1 p4 (4 : Int32))), .val (.int (own_F1 p4 (5 : Int32))), .val (.int (own_F1 p4 (6 : Int32))), .val (.int (own_F1 p4 (7 : Int32))), .val (.int (own_F1 p4 (8 : Int32))), .val (.ref b598), .val (.long (own_F7 (own_F1 p4 (3 : Int32)) (own_F1 p4 (0 : Int32)))), .second, .val (.long (own_F7 (own_F1 p4 (4 : Int32)) (own_F1 p4 (1 : Int32)))), .second, .val (.long (own_F7 (own_M0_158 p4) (own_M0_173 p4))), .second, .val (.long (own_F7 (own_F1 p4 (6 : Int32)) (0 : Int32))), .second, .val (.long (own_F7 (own_M0_201 p4) (0 : Int32))), .second, .val (.int (1 : Int32))]) rfl (q := 386) rfl ?_
    refine own_iload X666 hx (hb hby at_386) rfl (q := 388) rfl ?_
    refine own_retN X666 hx (t := .boolean) (by simp) Bd.returns Bd.notSynchronized (by decide) (by decide) (hb hby at_388) ?_
    show own_Q0 Z p0 p1 p2 p3 p4 h0 n0 _ T666.heap _
    exact ⟨rfl, N666⟩

set_option maxRecDepth 65536 in
set_option maxHeartbeats 40000000 in
theorem comes_1 {Post : Tables → Env → Array Value → State → Outcome → State → Prop} (hpost : ∀ tb e args s v u, (limb_1_1.after args s (.returned v) u = true ∧ limb_1_2.after args s (.returned v) u = true ∧ True) → FrameEnd s (.returned v) u (Jvm.fieldLocs frame_1_writes args s ++ Jvm.arrayLocs frame_1_arrays args s ++ Jvm.staticLocs frame_1_statics s) 24 128 → Post tb e args s (.returned v) u) :
    ArmFor flags0 classFile x code maxLocals ret World_1 tables_1 room_1 Calls_1 rest_1 Pre_1 Post := by
  intro l hfl _ _ p e ha hc hk s m args below hf hA hF happ hP
  obtain ⟨hcalls, hrest, hpre⟩ := hP
  obtain ⟨-, -, -, hnamed, -, -, -, hat⟩ := (Spec.applies_iff hf).mp happ
  obtain ⟨hg, hn⟩ := and_e (Cond.before_iff.mp (show (Jvm.Cond.and given_1 narrow_1).before args s = true from hpre))
  obtain ⟨g669, g670⟩ := and_e hg
  obtain ⟨g671, g672⟩ := and_e g670
  obtain ⟨g673, g674⟩ := and_e g672
  obtain ⟨g675, g676⟩ := and_e g674
  obtain ⟨g677, g678⟩ := and_e g676
  obtain ⟨w0, w1, w2, w3, w4, rfl⟩ : ∃ w0 w1 w2 w3 w4 : Value, args = #[w0, w1, w2, w3, w4] := by
    have hs : args.size = 5 := by simpa [Cond.value, given_1] using g669
    obtain ⟨L⟩ := args
    match L, hs with
    | [w0, w1, w2, w3, w4], _ => exact ⟨w0, w1, w2, w3, w4, rfl⟩
  have hw := fun d (hd : d ∈ tables_1) => atoms_spec (ws := Jvm.Cond.code x code maxLocals ret :: tables_1) hat d (List.mem_cons_of_mem _ hd)
  have hfit : Fit s := fun {y c} hc i hi => by
    obtain ⟨ha, rfl⟩ := Array.getElem?_eq_some_iff.mp hc
    have q := List.all_eq_true.mp ((Array.all_eq_true_iff_forall_mem.mp hF) _ (Array.getElem_mem ha)) i (List.mem_range.mpr hi)
    simpa [Array.getElem?_eq_getElem hi] using q
  obtain ⟨i0, ei0⟩ := is_v g671
  obtain rfl : w0 = (.int i0) := Option.some.inj ei0
  obtain ⟨i1, ei1⟩ := is_v g673
  obtain rfl : w1 = (.int i1) := Option.some.inj ei1
  obtain ⟨i2, ei2⟩ := is_v g675
  obtain rfl : w2 = (.int i2) := Option.some.inj ei2
  obtain ⟨i3, ei3⟩ := is_v g677
  obtain rfl : w3 = (.int i3) := Option.some.inj ei3
  obtain ⟨i4, ei4⟩ := is_v g678
  obtain rfl : w4 = (.int i4) := Option.some.inj ei4
  obtain ⟨n, o, h1, h2, h3, _, L, rfl, ⟨hv, N⟩, hq⟩ := own_rm0 l s _ hw tables_1 i0 i1 i2 i3 i4 s.heap s.heap.size (Nat.le_refl _)  p e ha hc hk s m _ below hf ((Spec.applies_iff_loose hf).mp happ).1 ⟨rfl, State.Warmed39.refl s, rfl⟩ trivial
  subst hv
  refine ⟨n, _, h1, h2, h3, hpost _ _ _ _ _ _ ⟨Cond.after_iff.mpr rfl, Cond.after_iff.mpr (eq_i res_at (Term.int_eval (1)) rfl), trivial⟩ ⟨hq.1, hq.2.1, (hq.2.2.sift fun y hy => Or.inr (N y hy)).mono (by decide) (by decide)⟩⟩
theorem main_1_1 : Claimed_1_1 := comes_1 fun _ _ _ _ _ _ h hF => ⟨h.1, hF⟩
theorem main_1_2 : Claimed_1_2 := comes_1 fun _ _ _ _ _ _ h hF => ⟨h.2.1, hF⟩
end Jvm.Pilot.@@N@@
namespace Jvm.Pilot.@@N@@
open Jvm Jvm.ClassFile Sem Op Lib Jvm.Free Jvm.Stand Jvm.Pilot.@@N@@.Jvm.D
/-! MADE BY PROGRAM (witnessworld.py) out of the Statement's table words and the real class files: 12 classes; the members and pool entries that the words name. The judged class is class 1, her method 3. -/
namespace start1
open Jvm.ClassFile
def u (s : String) : CpInfo := .utf8 (stringToUtf16 s)
/-- a pool by its gaps: so many unusable entries, then the entry; so many at the end -/
def gap : Nat → List CpInfo → List CpInfo
  | 0, r => r
  | n + 1, r => .unusable :: gap n r
def poolList (es : List (Nat × CpInfo)) (last : Nat) : List CpInfo := es.foldr (fun e r => gap e.1 (e.2 :: r)) (gap last [])
def pool (es : List (Nat × CpInfo)) (last : Nat) : Array CpInfo := ⟨poolList es last⟩
def fileOf (pool : Array CpInfo) (this : Nat) (attrs : Array Attribute := #[]) (ms : Array MethodInfo := #[]) (fl : Nat := 33) (sup : Nat := 0) (ifs : Array Nat := #[]) (fds : Array FieldInfo := #[]) : ClassFile where
  minorVersion := 0
  majorVersion := 65
  constantPool := pool
  accessFlags := fl
  thisClass := this
  superClass := sup
  interfaces := ifs
  fields := fds
  methods := ms
  attributes := attrs
def plain (name : String) (sup : Option ClassId) : Class where
  name := name
  kind := .ordinary
  loader := none
  accessFlags := 33
  super := sup
  interfaces := #[]
  cf := none
  fields := #[]
  methods := #[]
  instanceTypes := #[]
  staticTypes := #[]
  resolved := #[]
  callSites := []
  init := .initialized
  statics := none
  mirror := none

def pool0 : Array CpInfo := pool [(5, u "<init>"), (0, u "()V"), (1, .class_ 10), (1, u "java/lang/Object")] 113

def k0c0 : Code := { maxStack := 0, maxLocals := 1, code := object_method_1_code, exceptionTable := #[], attributes := #[] }
def k0m0 : Method := { name := "<init>", desc := "()V", sig := { parameters := [], returnType := none }, accessFlags := 1, code := some k0c0 }
/-- java/lang/Object -/
def k0 : Class := { plain "java/lang/Object" none with
  accessFlags := 33
  interfaces := #[]
  cf := some (fileOf pool0 8 #[] #[{ accessFlags := 1, nameIndex := 5, descriptorIndex := 6, attributes := #[] }] 33 0 #[] #[])
  fields := #[]
  methods := #[k0m0]
  instanceTypes := #[]
  staticTypes := #[]
  resolved := Array.replicate 124 none
  statics := none }

def pool1 : Array CpInfo := pool [(2, .class_ 4), (1, u "java/lang/Object"), (0, u "<init>"), (0, u "()V"), (2, .long 9223372036854775807), (1, .methodref 12 13), (0, .class_ 14), (0, .nameAndType 15 16), (0, u "com/example/arcwise/arcwise/adaptation/HistoryRevisedPinLaw"), (0, u "bit"), (0, u "(II)Z"), (0, .class_ 18), (0, u "com/example/arcwise/arcwise/adaptation/History"), (0, .methodref 17 20), (0, .nameAndType 5 21), (0, u "(I)V"), (0, .methodref 17 23), (0, .nameAndType 24 25), (0, u "revised"), (0, u "(IIZZZ)V"), (0, .methodref 12 27), (0, .nameAndType 28 29), (0, u "expect"), (0, u "(ZZ)J"), (0, .methodref 17 31), (0, .nameAndType 32 33), (0, u "lastPosition"), (0, u "(I)I"), (0, .methodref 17 35), (0, .nameAndType 36 37), (0, u "sinceRemoval"), (0, u "(I)J"), (0, .methodref 17 39), (0, .nameAndType 40 37), (0, u "sinceWipeOut"), (0, .methodref 17 42), (0, .nameAndType 43 37), (0, u "sinceStrongRemoval"), (3, u "law"), (0, u "(IIIII)Z")] 2

def k1m0 : Method := { name := "<init>", desc := "()V", sig := { parameters := [], returnType := none }, accessFlags := 1, code := none }
def k1c1 : Code := { maxStack := 2, maxLocals := 2, code := method_2_code, exceptionTable := #[], attributes := #[] }
def k1m1 : Method := { name := "bit", desc := "(II)Z", sig := { parameters := [.int, .int], returnType := some .boolean }, accessFlags := 10, code := some k1c1 }
def k1c2 : Code := { maxStack := 2, maxLocals := 2, code := method_3_code, exceptionTable := #[], attributes := #[] }
def k1m2 : Method := { name := "expect", desc := "(ZZ)J", sig := { parameters := [.boolean, .boolean], returnType := some .long }, accessFlags := 10, code := some k1c2 }
def k1c3 : Code := { maxStack := 6, maxLocals := 28, code := code, exceptionTable := #[], attributes := #[] }
def k1m3 : Method := { name := "law", desc := "(IIIII)Z", sig := { parameters := [.int, .int, .int, .int, .int], returnType := some .boolean }, accessFlags := 9, code := some k1c3 }
/-- com/example/arcwise/arcwise/adaptation/HistoryRevisedPinLaw -/
def k1 : Class := { plain "com/example/arcwise/arcwise/adaptation/HistoryRevisedPinLaw" (some 0) with
  accessFlags := 49
  interfaces := #[]
  cf := some (fileOf pool1 12 #[] #[{ accessFlags := 1, nameIndex := 5, descriptorIndex := 6, attributes := #[] }, { accessFlags := 10, nameIndex := 15, descriptorIndex := 16, attributes := #[] }, { accessFlags := 10, nameIndex := 28, descriptorIndex := 29, attributes := #[] }, { accessFlags := 9, nameIndex := 47, descriptorIndex := 48, attributes := #[] }] 49 2 #[] #[])
  fields := #[]
  methods := #[k1m0, k1m1, k1m2, k1m3]
  instanceTypes := #[]
  staticTypes := #[]
  resolved := Array.replicate 51 none
  statics := none }

def pool2 : Array CpInfo := pool [(1, .methodref 2 3), (0, .class_ 4), (0, .nameAndType 5 6), (0, u "java/lang/Object"), (0, u "<init>"), (0, u "()V"), (0, .fieldref 8 9), (0, .class_ 10), (0, .nameAndType 11 12), (0, u "com/example/arcwise/arcwise/adaptation/History"), (0, u "revisions"), (0, u "[J"), (0, .fieldref 8 14), (0, .nameAndType 15 12), (0, u "lastWipeOut"), (0, .fieldref 8 17), (0, .nameAndType 18 12), (0, u "lastRemoval"), (0, .fieldref 8 20), (0, .nameAndType 21 12), (0, u "lastStrongRemoval"), (0, .fieldref 8 23), (0, .nameAndType 24 25), (0, u "lastPosition"), (0, u "[I"), (0, .long 18446744073709551615), (1, .methodref 29 30), (0, .class_ 31), (0, .nameAndType 32 33), (0, u "java/util/Arrays"), (0, u "fill"), (0, u "([JJ)V"), (0, .methodref 29 35), (0, .nameAndType 32 36), (0, u "([II)V"), (0, .methodref 8 38), (0, .nameAndType 39 40), (0, u "since"), (0, u "([JI)J"), (2, .long 9223372036854775807), (1, u "NONE"), (0, u "J"), (1, u "(I)V"), (2, u "revised"), (0, u "(IIZZZ)V"), (1, u "sinceWipeOut"), (0, u "(I)J"), (0, u "sinceRemoval"), (0, u "sinceStrongRemoval"), (0, u "(I)I")] 2

def k2c0 : Code := { maxStack := 3, maxLocals := 2, code := prog_2_method_1_code, exceptionTable := #[], attributes := #[] }
def k2m0 : Method := { name := "<init>", desc := "(I)V", sig := { parameters := [.int], returnType := none }, accessFlags := 0, code := some k2c0 }
def k2c1 : Code := { maxStack := 6, maxLocals := 8, code := prog_2_method_2_code, exceptionTable := #[], attributes := #[] }
def k2m1 : Method := { name := "revised", desc := "(IIZZZ)V", sig := { parameters := [.int, .int, .boolean, .boolean, .boolean], returnType := none }, accessFlags := 0, code := some k2c1 }
def k2c2 : Code := { maxStack := 3, maxLocals := 2, code := prog_2_method_3_code, exceptionTable := #[], attributes := #[] }
def k2m2 : Method := { name := "sinceWipeOut", desc := "(I)J", sig := { parameters := [.int], returnType := some .long }, accessFlags := 0, code := some k2c2 }
def k2c3 : Code := { maxStack := 3, maxLocals := 2, code := prog_2_method_4_code, exceptionTable := #[], attributes := #[] }
def k2m3 : Method := { name := "sinceRemoval", desc := "(I)J", sig := { parameters := [.int], returnType := some .long }, accessFlags := 0, code := some k2c3 }
def k2c4 : Code := { maxStack := 3, maxLocals := 2, code := prog_2_method_5_code, exceptionTable := #[], attributes := #[] }
def k2m4 : Method := { name := "sinceStrongRemoval", desc := "(I)J", sig := { parameters := [.int], returnType := some .long }, accessFlags := 0, code := some k2c4 }
def k2c5 : Code := { maxStack := 2, maxLocals := 2, code := prog_2_method_6_code, exceptionTable := #[], attributes := #[] }
def k2m5 : Method := { name := "lastPosition", desc := "(I)I", sig := { parameters := [.int], returnType := some .int }, accessFlags := 0, code := some k2c5 }
def k2c6 : Code := { maxStack := 4, maxLocals := 3, code := prog_2_method_7_code, exceptionTable := #[], attributes := #[] }
def k2m6 : Method := { name := "since", desc := "([JI)J", sig := { parameters := [(.array .long), .int], returnType := some .long }, accessFlags := 2, code := some k2c6 }
/-- com/example/arcwise/arcwise/adaptation/History -/
def k2 : Class := { plain "com/example/arcwise/arcwise/adaptation/History" (some 0) with
  accessFlags := 48
  interfaces := #[]
  cf := some (fileOf pool2 8 #[] #[{ accessFlags := 0, nameIndex := 5, descriptorIndex := 48, attributes := #[] }, { accessFlags := 0, nameIndex := 51, descriptorIndex := 52, attributes := #[] }, { accessFlags := 0, nameIndex := 54, descriptorIndex := 55, attributes := #[] }, { accessFlags := 0, nameIndex := 56, descriptorIndex := 55, attributes := #[] }, { accessFlags := 0, nameIndex := 57, descriptorIndex := 55, attributes := #[] }, { accessFlags := 0, nameIndex := 24, descriptorIndex := 58, attributes := #[] }, { accessFlags := 2, nameIndex := 39, descriptorIndex := 40, attributes := #[] }] 48 2 #[] #[{ accessFlags := 26, nameIndex := 45, descriptorIndex := 46, attributes := #[] }, { accessFlags := 18, nameIndex := 11, descriptorIndex := 12, attributes := #[] }, { accessFlags := 18, nameIndex := 15, descriptorIndex := 12, attributes := #[] }, { accessFlags := 18, nameIndex := 18, descriptorIndex := 12, attributes := #[] }, { accessFlags := 18, nameIndex := 21, descriptorIndex := 12, attributes := #[] }, { accessFlags := 18, nameIndex := 24, descriptorIndex := 25, attributes := #[] }])
  fields := #[{ name := "NONE", type := .long, accessFlags := 26, slot := 0, constantValue := 0 }, { name := "revisions", type := (.array .long), accessFlags := 18, slot := 0, constantValue := 0 }, { name := "lastWipeOut", type := (.array .long), accessFlags := 18, slot := 1, constantValue := 0 }, { name := "lastRemoval", type := (.array .long), accessFlags := 18, slot := 2, constantValue := 0 }, { name := "lastStrongRemoval", type := (.array .long), accessFlags := 18, slot := 3, constantValue := 0 }, { name := "lastPosition", type := (.array .int), accessFlags := 18, slot := 4, constantValue := 0 }]
  methods := #[k2m0, k2m1, k2m2, k2m3, k2m4, k2m5, k2m6]
  instanceTypes := #[(.array .long), (.array .long), (.array .long), (.array .long), (.array .int)]
  staticTypes := #[.long]
  resolved := Array.replicate 61 none
  statics := none }

def pool3 : Array CpInfo := pool [(2, .class_ 4), (1, u "java/lang/Object"), (0, u "<init>"), (0, u "()V"), (7, .class_ 16), (1, u "java/util/Arrays"), (57, .class_ 76), (1, u "java/util/Arrays$NaturalOrder"), (36, .class_ 115), (1, u "java/util/Arrays$LegacyMergeSort"), (1, u "Z"), (257, .class_ 376), (0, u "java/util/Arrays$ArrayList"), (68, u "$assertionsDisabled"), (269, u "MIN_ARRAY_SORT_GRAN"), (0, u "I"), (2, u "INSERTIONSORT_THRESHOLD"), (120, u "fill"), (0, u "([JJ)V"), (3, u "([II)V"), (129, .class_ 976), (0, u "java/util/Arrays$ArrayItr")] 52

def k3m0 : Method := { name := "<init>", desc := "()V", sig := { parameters := [], returnType := none }, accessFlags := 2, code := none }
def k3c1 : Code := { maxStack := 4, maxLocals := 5, code := jdk_65_method_101_code, exceptionTable := #[], attributes := #[] }
def k3m1 : Method := { name := "fill", desc := "([JJ)V", sig := { parameters := [(.array .long), .long], returnType := none }, accessFlags := 9, code := some k3c1 }
def k3c2 : Code := { maxStack := 3, maxLocals := 4, code := jdk_65_method_103_code, exceptionTable := #[], attributes := #[] }
def k3m2 : Method := { name := "fill", desc := "([II)V", sig := { parameters := [(.array .int), .int], returnType := none }, accessFlags := 9, code := some k3c2 }
/-- java/util/Arrays -/
def k3 : Class := { plain "java/util/Arrays" (some 0) with
  accessFlags := 49
  interfaces := #[]
  cf := some (fileOf pool3 14 #[.nestMembers #[975, 375, 113, 74]] #[{ accessFlags := 2, nameIndex := 5, descriptorIndex := 6, attributes := #[] }, { accessFlags := 9, nameIndex := 840, descriptorIndex := 841, attributes := #[] }, { accessFlags := 9, nameIndex := 840, descriptorIndex := 845, attributes := #[] }] 49 2 #[] #[{ accessFlags := 26, nameIndex := 715, descriptorIndex := 716, attributes := #[] }, { accessFlags := 26, nameIndex := 719, descriptorIndex := 716, attributes := #[] }, { accessFlags := 4120, nameIndex := 445, descriptorIndex := 117, attributes := #[] }])
  fields := #[{ name := "MIN_ARRAY_SORT_GRAN", type := .int, accessFlags := 26, slot := 0, constantValue := 0 }, { name := "INSERTIONSORT_THRESHOLD", type := .int, accessFlags := 26, slot := 1, constantValue := 0 }, { name := "$assertionsDisabled", type := .boolean, accessFlags := 4120, slot := 2, constantValue := 0 }]
  methods := #[k3m0, k3m1, k3m2]
  instanceTypes := #[]
  staticTypes := #[.int, .int, .boolean]
  resolved := Array.replicate 1029 none
  statics := none }

def pool4 : Array CpInfo := pool [(1, u "java/lang/Cloneable"), (0, .class_ 1), (0, u "java/lang/Object"), (0, .class_ 3)] 3

/-- java/lang/Cloneable -/
def k4 : Class := { plain "java/lang/Cloneable" (some 0) with
  accessFlags := 1537
  interfaces := #[]
  cf := some (fileOf pool4 2 #[] #[] 1537 4 #[] #[])
  fields := #[]
  methods := #[]
  instanceTypes := #[]
  staticTypes := #[]
  resolved := Array.replicate 8 none
  statics := none }

def pool5 : Array CpInfo := pool [(1, u "java/io/Serializable"), (0, .class_ 1), (0, u "java/lang/Object"), (0, .class_ 3)] 3

/-- java/io/Serializable -/
def k5 : Class := { plain "java/io/Serializable" (some 0) with
  accessFlags := 1537
  interfaces := #[]
  cf := some (fileOf pool5 2 #[] #[] 1537 4 #[] #[])
  fields := #[]
  methods := #[]
  instanceTypes := #[]
  staticTypes := #[]
  resolved := Array.replicate 8 none
  statics := none }

/-- the primitive byte -/
def k6 : Class := { plain "byte" none with kind := .primitive 'B', accessFlags := 0x411 }
/-- [B -/
def k7 : Class := { plain "[B" (some 0) with kind := .array 6 .byte, interfaces := #[4, 5], accessFlags := 1041 }

/-- the primitive int -/
def k8 : Class := { plain "int" none with kind := .primitive 'I', accessFlags := 0x411 }
/-- [I -/
def k9 : Class := { plain "[I" (some 0) with kind := .array 8 .int, interfaces := #[4, 5], accessFlags := 1041 }

/-- the primitive long -/
def k10 : Class := { plain "long" none with kind := .primitive 'J', accessFlags := 0x411 }
/-- [J -/
def k11 : Class := { plain "[J" (some 0) with kind := .array 10 .long, interfaces := #[4, 5], accessFlags := 1041 }

def heap : Heap := #[]
def classes : Array Class := #[k0, k1, k2, k3, k4, k5, k6, k7, k8, k9, k10, k11]
def interned : List (Array UInt16 × Addr) := []
def slotsUsed : Nat := 0
def theMethod : MethodId := ⟨1, 3⟩
def args0 : Array Value := #[.int 3, .int 4, .int 5, .int 6, .int 7]
def aboutOver (below : List Frame) : State where
  vm := { classes := classes, interned := interned.toArray }
  heap := heap
  slotsUsed := slotsUsed
  threads := #[{ frames := .invoking theMethod args0 :: below }]
def below0 : List Frame := [.native { method := ⟨0, 0⟩, args := #[] }]
def about1 : State := aboutOver below0
def p0 : Program := .bare "" "" ""
def e0 : Env := launch0.env 0 0 0
theorem w_frames : about1.frames = Frame.invoking theMethod args0 :: below0 := rfl
set_option maxRecDepth 65536 in
theorem w_args : argsFit about1.vm theMethod args0 = true := by decide +kernel
set_option maxRecDepth 65536 in
theorem w_heap : heapFits about1 = true := by decide +kernel
set_option maxRecDepth 65536 in
theorem w_runnable : about1.curStatus? = some .runnable := by decide +kernel
set_option maxRecDepth 65536 in
theorem w_alone : about1.alone = true := by decide +kernel
set_option maxRecDepth 65536 in
theorem w_named : about1.methodNamed? x = some theMethod := by decide +kernel
set_option maxRecDepth 65536 in
theorem w_hears : about1.hears theMethod below0 = true := by decide +kernel
set_option maxRecDepth 65536 in
theorem w_ripe : about1.ripe theMethod args0 below0 = true := by decide +kernel
theorem w_running : about1.status = .running := rfl
set_option maxRecDepth 65536 in
theorem w_room : about1.hasRoom e0.platform room_1 = true :=
  launch0.hasRoom_least _ room_1 (by decide +kernel) (by decide +kernel) (by decide +kernel) (by decide +kernel) (by decide +kernel) (by decide +kernel)
theorem allAtoms_all (ts : List Jvm.Cond) (a : Array Jvm.Value) (st : Jvm.State) : (allAtoms ts).before a st = ts.all (fun c => c.before a st) := by
  induction ts with
  | nil => rfl
  | cons c t ih =>
    show (Jvm.Cond.and c (allAtoms t)).before a st = _
    rw [Jvm.Cond.before_and, ih, List.all_cons]
def words1 : List Jvm.Cond := Jvm.Cond.code x code maxLocals ret :: tables_1
/-- a 'code' word, met by the world's own term for the bytes: nothing is compared byte by byte -/
theorem code_word {y : MethodName} {bytes : ByteArray} {mx : Nat} {rt : Option FieldType} {a : Array Value} {s : State} {m : MethodId} {meth : Method} {c : Code} (h1 : s.methodNamed? y = some m) (h2 : s.vm.method? m = some meth) (h3 : meth.code = some c) (h4 : c.code = bytes)
    (h5 : (c.maxLocals == mx && c.exceptionTable.isEmpty && decide (c.maxStack ≤ mostOperands) && decide (meth.sig.returnType = rt) && !meth.locks && decide (parseMethodDescriptor y.desc = some meth.sig)) = true) : (Jvm.Cond.code y bytes mx rt).before a s = true := by
  simp only [Bool.and_eq_true, beq_iff_eq, Bool.not_eq_true', decide_eq_true_eq] at h5
  obtain ⟨⟨⟨⟨⟨g1, g2⟩, g3⟩, g4⟩, g5⟩, g6⟩ := h5
  simp [Cond.before, Cond.holds, Cond.value, h1, h2, h3, h4, g1, g2, g3, g4, g5, g6]
def isCode : Jvm.Cond → Bool
  | .code _ _ _ _ => true
  | _ => false
theorem all_split {L : List Jvm.Cond} {P : Jvm.Cond → Bool} (h1 : L.all (fun c => isCode c || P c) = true) (h2 : ∀ c ∈ L.filter isCode, P c = true) : L.all P = true := by
  refine List.all_eq_true.mpr fun c hc => ?_
  have h := List.all_eq_true.mp h1 c hc
  rcases Bool.eq_false_or_eq_true (isCode c) with hi | hi
  · exact h2 c (List.mem_filter.mpr ⟨hc, hi⟩)
  · simpa [hi] using h
set_option maxRecDepth 65536 in
theorem w_c0 : (Jvm.Cond.code x code maxLocals ret).before args0 about1 = true := code_word (m := ⟨1, 3⟩) (meth := k1m3) (c := k1c3) (by decide +kernel) rfl rfl rfl (by decide +kernel)
set_option maxRecDepth 65536 in
theorem w_c1 : (Jvm.Cond.code ({ cls := "com/example/arcwise/arcwise/adaptation/HistoryRevisedPinLaw", name := "bit", desc := "(II)Z" } : Jvm.MethodName) method_2_code (2 : Nat) (Option.some Jvm.ClassFile.FieldType.boolean)).before args0 about1 = true := code_word (m := ⟨1, 1⟩) (meth := k1m1) (c := k1c1) (by decide +kernel) rfl rfl rfl (by decide +kernel)
set_option maxRecDepth 65536 in
theorem w_c2 : (Jvm.Cond.code ({ cls := "com/example/arcwise/arcwise/adaptation/History", name := "<init>", desc := "(I)V" } : Jvm.MethodName) prog_2_method_1_code (2 : Nat) (Option.none : Option Jvm.ClassFile.FieldType)).before args0 about1 = true := code_word (m := ⟨2, 0⟩) (meth := k2m0) (c := k2c0) (by decide +kernel) rfl rfl rfl (by decide +kernel)
set_option maxRecDepth 65536 in
theorem w_c3 : (Jvm.Cond.code ({ cls := "java/lang/Object", name := "<init>", desc := "()V" } : Jvm.MethodName) object_method_1_code (1 : Nat) (Option.none : Option Jvm.ClassFile.FieldType)).before args0 about1 = true := code_word (m := ⟨0, 0⟩) (meth := k0m0) (c := k0c0) (by decide +kernel) rfl rfl rfl (by decide +kernel)
set_option maxRecDepth 65536 in
theorem w_c4 : (Jvm.Cond.code ({ cls := "java/util/Arrays", name := "fill", desc := "([JJ)V" } : Jvm.MethodName) jdk_65_method_101_code (5 : Nat) (Option.none : Option Jvm.ClassFile.FieldType)).before args0 about1 = true := code_word (m := ⟨3, 1⟩) (meth := k3m1) (c := k3c1) (by decide +kernel) rfl rfl rfl (by decide +kernel)
set_option maxRecDepth 65536 in
theorem w_c5 : (Jvm.Cond.code ({ cls := "java/util/Arrays", name := "fill", desc := "([II)V" } : Jvm.MethodName) jdk_65_method_103_code (4 : Nat) (Option.none : Option Jvm.ClassFile.FieldType)).before args0 about1 = true := code_word (m := ⟨3, 2⟩) (meth := k3m2) (c := k3c2) (by decide +kernel) rfl rfl rfl (by decide +kernel)
set_option maxRecDepth 65536 in
theorem w_c6 : (Jvm.Cond.code ({ cls := "com/example/arcwise/arcwise/adaptation/History", name := "revised", desc := "(IIZZZ)V" } : Jvm.MethodName) prog_2_method_2_code (8 : Nat) (Option.none : Option Jvm.ClassFile.FieldType)).before args0 about1 = true := code_word (m := ⟨2, 1⟩) (meth := k2m1) (c := k2c1) (by decide +kernel) rfl rfl rfl (by decide +kernel)
set_option maxRecDepth 65536 in
theorem w_c7 : (Jvm.Cond.code ({ cls := "com/example/arcwise/arcwise/adaptation/HistoryRevisedPinLaw", name := "expect", desc := "(ZZ)J" } : Jvm.MethodName) method_3_code (2 : Nat) (Option.some Jvm.ClassFile.FieldType.long)).before args0 about1 = true := code_word (m := ⟨1, 2⟩) (meth := k1m2) (c := k1c2) (by decide +kernel) rfl rfl rfl (by decide +kernel)
set_option maxRecDepth 65536 in
theorem w_c8 : (Jvm.Cond.code ({ cls := "com/example/arcwise/arcwise/adaptation/History", name := "lastPosition", desc := "(I)I" } : Jvm.MethodName) prog_2_method_6_code (2 : Nat) (Option.some Jvm.ClassFile.FieldType.int)).before args0 about1 = true := code_word (m := ⟨2, 5⟩) (meth := k2m5) (c := k2c5) (by decide +kernel) rfl rfl rfl (by decide +kernel)
set_option maxRecDepth 65536 in
theorem w_c9 : (Jvm.Cond.code ({ cls := "com/example/arcwise/arcwise/adaptation/History", name := "sinceRemoval", desc := "(I)J" } : Jvm.MethodName) prog_2_method_4_code (2 : Nat) (Option.some Jvm.ClassFile.FieldType.long)).before args0 about1 = true := code_word (m := ⟨2, 3⟩) (meth := k2m3) (c := k2c3) (by decide +kernel) rfl rfl rfl (by decide +kernel)
set_option maxRecDepth 65536 in
theorem w_c10 : (Jvm.Cond.code ({ cls := "com/example/arcwise/arcwise/adaptation/History", name := "since", desc := "([JI)J" } : Jvm.MethodName) prog_2_method_7_code (3 : Nat) (Option.some Jvm.ClassFile.FieldType.long)).before args0 about1 = true := code_word (m := ⟨2, 6⟩) (meth := k2m6) (c := k2c6) (by decide +kernel) rfl rfl rfl (by decide +kernel)
set_option maxRecDepth 65536 in
theorem w_c11 : (Jvm.Cond.code ({ cls := "com/example/arcwise/arcwise/adaptation/History", name := "sinceWipeOut", desc := "(I)J" } : Jvm.MethodName) prog_2_method_3_code (2 : Nat) (Option.some Jvm.ClassFile.FieldType.long)).before args0 about1 = true := code_word (m := ⟨2, 2⟩) (meth := k2m2) (c := k2c2) (by decide +kernel) rfl rfl rfl (by decide +kernel)
set_option maxRecDepth 65536 in
theorem w_c12 : (Jvm.Cond.code ({ cls := "com/example/arcwise/arcwise/adaptation/History", name := "sinceStrongRemoval", desc := "(I)J" } : Jvm.MethodName) prog_2_method_5_code (2 : Nat) (Option.some Jvm.ClassFile.FieldType.long)).before args0 about1 = true := code_word (m := ⟨2, 4⟩) (meth := k2m4) (c := k2c4) (by decide +kernel) rfl rfl rfl (by decide +kernel)
def codes1 : List Jvm.Cond := [Jvm.Cond.code x code maxLocals ret, Jvm.Cond.code ({ cls := "com/example/arcwise/arcwise/adaptation/HistoryRevisedPinLaw", name := "bit", desc := "(II)Z" } : Jvm.MethodName) method_2_code (2 : Nat) (Option.some Jvm.ClassFile.FieldType.boolean), Jvm.Cond.code ({ cls := "com/example/arcwise/arcwise/adaptation/History", name := "<init>", desc := "(I)V" } : Jvm.MethodName) prog_2_method_1_code (2 : Nat) (Option.none : Option Jvm.ClassFile.FieldType), Jvm.Cond.code ({ cls := "java/lang/Object", name := "<init>", desc := "()V" } : Jvm.MethodName) object_method_1_code (1 : Nat) (Option.none : Option Jvm.ClassFile.FieldType), Jvm.Cond.code ({ cls := "java/util/Arrays", name := "fill", desc := "([JJ)V" } : Jvm.MethodName) jdk_65_method_101_code (5 : Nat) (Option.none : Option Jvm.ClassFile.FieldType), Jvm.Cond.code ({ cls := "java/util/Arrays", name := "fill", desc := "([II)V" } : Jvm.MethodName) jdk_65_method_103_code (4 : Nat) (Option.none : Option Jvm.ClassFile.FieldType), Jvm.Cond.code ({ cls := "com/example/arcwise/arcwise/adaptation/History", name := "revised", desc := "(IIZZZ)V" } : Jvm.MethodName) prog_2_method_2_code (8 : Nat) (Option.none : Option Jvm.ClassFile.FieldType), Jvm.Cond.code ({ cls := "com/example/arcwise/arcwise/adaptation/HistoryRevisedPinLaw", name := "expect", desc := "(ZZ)J" } : Jvm.MethodName) method_3_code (2 : Nat) (Option.some Jvm.ClassFile.FieldType.long), Jvm.Cond.code ({ cls := "com/example/arcwise/arcwise/adaptation/History", name := "lastPosition", desc := "(I)I" } : Jvm.MethodName) prog_2_method_6_code (2 : Nat) (Option.some Jvm.ClassFile.FieldType.int), Jvm.Cond.code ({ cls := "com/example/arcwise/arcwise/adaptation/History", name := "sinceRemoval", desc := "(I)J" } : Jvm.MethodName) prog_2_method_4_code (2 : Nat) (Option.some Jvm.ClassFile.FieldType.long), Jvm.Cond.code ({ cls := "com/example/arcwise/arcwise/adaptation/History", name := "since", desc := "([JI)J" } : Jvm.MethodName) prog_2_method_7_code (3 : Nat) (Option.some Jvm.ClassFile.FieldType.long), Jvm.Cond.code ({ cls := "com/example/arcwise/arcwise/adaptation/History", name := "sinceWipeOut", desc := "(I)J" } : Jvm.MethodName) prog_2_method_3_code (2 : Nat) (Option.some Jvm.ClassFile.FieldType.long), Jvm.Cond.code ({ cls := "com/example/arcwise/arcwise/adaptation/History", name := "sinceStrongRemoval", desc := "(I)J" } : Jvm.MethodName) prog_2_method_5_code (2 : Nat) (Option.some Jvm.ClassFile.FieldType.long)]
set_option maxRecDepth 65536 in
theorem codes_eq : words1.filter isCode = codes1 := rfl
theorem w_codes : ∀ c ∈ words1.filter isCode, c.before args0 about1 = true := by
  rw [codes_eq]
  intro c hc
  simp only [codes1, List.mem_cons, List.not_mem_nil, or_false] at hc
  rcases hc with rfl | rfl | rfl | rfl | rfl | rfl | rfl | rfl | rfl | rfl | rfl | rfl | rfl
  · exact w_c0
  · exact w_c1
  · exact w_c2
  · exact w_c3
  · exact w_c4
  · exact w_c5
  · exact w_c6
  · exact w_c7
  · exact w_c8
  · exact w_c9
  · exact w_c10
  · exact w_c11
  · exact w_c12
set_option maxRecDepth 65536 in
theorem w_t1 : (words1.take 24).all (fun c => isCode c || c.before args0 about1) = true := by decide +kernel
set_option maxRecDepth 65536 in
theorem w_t2 : ((words1.drop 24).take 24).all (fun c => isCode c || c.before args0 about1) = true := by decide +kernel
set_option maxRecDepth 65536 in
theorem w_t3 : ((words1.drop 24).drop 24).all (fun c => isCode c || c.before args0 about1) = true := by decide +kernel
theorem w_tables : (allAtoms (Jvm.Cond.code x code maxLocals ret :: tables_1)).before args0 about1 = true := by
  rw [allAtoms_all]
  show words1.all (fun c => c.before args0 about1) = true
  refine all_split ?_ w_codes
  rw [← List.take_append_drop 24 words1, List.all_append, w_t1, ← List.take_append_drop 24 (words1.drop 24), List.all_append, w_t2, w_t3]
  rfl
set_option maxRecDepth 65536 in
theorem w_case : (Jvm.Cond.and given_1 narrow_1).before args0 about1 = true := by decide +kernel
theorem w_applies : (headSpec (Jvm.Cond.code x code maxLocals ret :: tables_1) room_1).applies x e0.platform about1 = true :=
  (Spec.applies_iff w_frames).mpr ⟨w_running, w_runnable, w_alone, w_named, w_hears, w_ripe, w_room, w_tables⟩
theorem atStart : AtStart classFile x code maxLocals ret World_1 tables_1 room_1 Calls_1 rest_1 Pre_1 launch0 p0 e0 about1 theMethod args0 below0 :=
  ⟨lists_1, trivial, launch0.admits_env _ _ _, launch0.least_env, fairChoices_fair.cas, fairChoices_fair.clock, w_frames, w_args, w_heap, w_applies, trivial, trivial, w_case⟩
end start1
theorem witness_1 : WitnessClaimed_1 := ⟨start1.p0, start1.e0, start1.about1, start1.theMethod, start1.args0, start1.below0, start1.atStart⟩
end Jvm.Pilot.@@N@@
