import JvmDerived
import JvmDerived.Pilot.@@N@@Statement
import JvmDerived.Pilot.@@N@@Code
set_option linter.unusedVariables false
set_option linter.unusedSimpArgs false
@@BLOCK:NumsL.lean.txt@@
namespace Jvm.Pilot.@@N@@
open Jvm Jvm.ClassFile Sem Op Lib Jvm.Free Jvm.Stand Jvm.LawKit Jvm.RoadKit Bundle Jvm.Pilot.@@N@@.Jvm.D
section Own
variable {p : Program} {l : Launch} {e : Env} {R : Room} {s : State} {m : MethodId} {args : Array Value} {below : List Frame} {meth : Method} {c : Code} {T : State} {locs : List Loc} {cells slots : Nat} {Q : Option Value → Heap → List Loc → Prop} {K N : Nat} {s' : State} {E : State → Outcome → State → List Loc → Nat → Nat → Prop}
/-- the run from a ends in a return of which Q holds, within the frame -/
def own_End (p : Program) (e : Env) (below : List Frame) (s : State) (Q : Option Value → Heap → List Loc → Prop) (K N : Nat) (a : State) (E : State → Outcome → State → List Loc → Nat → Nat → Prop := FrameEnd) : Prop :=
  ∃ s₂ o, Steps p.tables e below a s₂ ∧ s₂.status = .running ∧ Ended s₂ below o ∧ ∃ v L, o = .returned v ∧ Q v s₂.heap L ∧ E s o s₂ L K N
theorem own_back {a b : State} (k : ∀ t, Steps p.tables e below b t → Steps p.tables e below a t) (h : own_End p e below s Q K N b E) : own_End p e below s Q K N a E := by
  obtain ⟨s₂, o, h1, h2⟩ := h
  exact ⟨s₂, o, k _ h1, h2⟩
theorem own_via {a b : State} (k : Steps p.tables e below a b) (h : own_End p e below s Q K N b E) : own_End p e below s Q K N a E :=
  own_back (fun _ j => k.trans j) h
/-- behind a call by contract: nothing to substitute, the places written under a name of their own -/
theorem own_shutS {g : JFrame} {rest : List Value} {Q : Option Value → Heap → List Loc → Prop} {rc rs n0 : Nat} {val : Option Value} (N : Fr n0 locs) (hv : ∀ v h L, Q v h L → v = val ∧ Fr n0 L)
    (H : ∃ (v : Option Value) (vm₁ : Vm) (B : Pt), s.WarmedH vm₁ ∧ Stand p l e R s m args below meth c B.U B.locs B.cells B.slots ∧ (∃ L, Q v B.U.heap L ∧ B.locs = locs ++ L ∧ B.cells = cells + rc ∧ B.slots = slots + rs) ∧
      ∀ target, Steps p.tables e below (B.U.setTop { g with pc := g.pc + 3, stack := v.toList ++ rest }) target → Steps p.tables e below (T.setTop g) target) :
    ∃ (T' : State) (L L' : List Loc), Stand p l e R s m args below meth c T' L' (cells + rc) (slots + rs) ∧ Fr n0 L' ∧ Q val T'.heap L ∧ ∀ target, Steps p.tables e below (T'.setTop { g with pc := g.pc + 3, stack := val.toList ++ rest }) target → Steps p.tables e below (T.setTop g) target := by
  obtain ⟨v, vm₁, ⟨T', L', k', n'⟩, -, X, ⟨L, q, l1, l2, l3⟩, st⟩ := H
  subst l1 l2 l3
  obtain ⟨hv1, hv2⟩ := hv _ _ _ q
  cases hv1
  exact ⟨T', L, _, X, N.app hv2, q, st⟩
theorem own_shutV {g : JFrame} {rest : List Value} {Q : Option Value → Heap → List Loc → Prop} {rc rs n0 : Nat} {val : Option Value} {s₀ : State} (N : Fr n0 locs) (hv : ∀ v h L, Q v h L → v = val ∧ Fr n0 L)
    (H : ∃ (v : Option Value) (vm₁ : Vm) (B : Pt), s.WarmedH vm₁ ∧ Stand p l e R s m args below meth c B.U B.locs B.cells B.slots ∧ (∃ L, Q v B.U.heap L ∧ B.locs = locs ++ L ∧ B.cells = cells + rc ∧ B.slots = slots + rs) ∧
      Steps p.tables e below s₀ (B.U.setTop { g with pc := g.pc + 3, stack := v.toList ++ rest })) :
    ∃ (T' : State) (L L' : List Loc), Stand p l e R s m args below meth c T' L' (cells + rc) (slots + rs) ∧ Fr n0 L' ∧ Q val T'.heap L ∧ Steps p.tables e below s₀ (T'.setTop { g with pc := g.pc + 3, stack := val.toList ++ rest }) := by
  obtain ⟨v, vm₁, ⟨T', L', k', n'⟩, -, X, ⟨L, q, l1, l2, l3⟩, st⟩ := H
  subst l1 l2 l3
  obtain ⟨hv1, hv2⟩ := hv _ _ _ q
  cases hv1
  exact ⟨T', L, _, X, N.app hv2, q, st⟩
theorem own_gl {n0 : Nat} (X : Stand p l e R s m args below meth c T locs cells slots) (N : Fr n0 locs) : ∃ L, Stand p l e R s m args below meth c T L cells slots ∧ Fr n0 L := ⟨_, X, N⟩
theorem own_selfsel {y : MethodName} {n : Nat} (wi : (Jvm.Cond.instantiable y.cls n).before args s = true) (hp : s.PrivateAt y) (hi : (Jvm.Cond.instanceMethod y).before args s = true) (hy : y.cls ≠ "java/lang/invoke/MethodHandle" ∧ y.cls ≠ "java/lang/invoke/VarHandle") : (Jvm.Cond.selects y.cls y y).before args s = true := by
  obtain ⟨c, k, h1, h2, -, h4, -⟩ := Cond.instantiable_spec wi
  exact selects_self_of_private h1 h2 (Bool.or_eq_false_iff.mp h4).1 hp hi hy
theorem own_cast {a b : State} (q : a = b) (h : own_End p e below s Q K N b E) : own_End p e below s Q K N a E := q ▸ h
theorem own_iadd (X : Stand p l e R s' m args below meth c T locs cells slots) (hx : p.tables.exec = Jvm.exec) {pc q : Nat} {Ls : Array Slot} {rest : List Value} (hd : decode c.code pc = .ok (.iadd, 1)) {x y : Int32} (hq : pc + 1 = q) (h : own_End p e below s Q K N (T.setTop (mkF m q Ls (.int (x + y) :: rest))) E) : own_End p e below s Q K N (T.setTop (mkF m pc Ls (.int y :: .int x :: rest))) E := by
  subst hq; exact own_back (fun _ k => XS.iadd X.here hx rfl hd rfl k) h
theorem own_isub (X : Stand p l e R s' m args below meth c T locs cells slots) (hx : p.tables.exec = Jvm.exec) {pc q : Nat} {Ls : Array Slot} {rest : List Value} (hd : decode c.code pc = .ok (.isub, 1)) {x y : Int32} (hq : pc + 1 = q) (h : own_End p e below s Q K N (T.setTop (mkF m q Ls (.int (x - y) :: rest))) E) : own_End p e below s Q K N (T.setTop (mkF m pc Ls (.int y :: .int x :: rest))) E := by
  subst hq; exact own_back (fun _ k => XS.isub X.here hx rfl hd rfl k) h
theorem own_imul (X : Stand p l e R s' m args below meth c T locs cells slots) (hx : p.tables.exec = Jvm.exec) {pc q : Nat} {Ls : Array Slot} {rest : List Value} (hd : decode c.code pc = .ok (.imul, 1)) {x y : Int32} (hq : pc + 1 = q) (h : own_End p e below s Q K N (T.setTop (mkF m q Ls (.int (x * y) :: rest))) E) : own_End p e below s Q K N (T.setTop (mkF m pc Ls (.int y :: .int x :: rest))) E := by
  subst hq; exact own_back (fun _ k => XS.imul X.here hx rfl hd rfl k) h
theorem own_iand (X : Stand p l e R s' m args below meth c T locs cells slots) (hx : p.tables.exec = Jvm.exec) {pc q : Nat} {Ls : Array Slot} {rest : List Value} (hd : decode c.code pc = .ok (.iand, 1)) {x y : Int32} (hq : pc + 1 = q) (h : own_End p e below s Q K N (T.setTop (mkF m q Ls (.int (x &&& y) :: rest))) E) : own_End p e below s Q K N (T.setTop (mkF m pc Ls (.int y :: .int x :: rest))) E := by
  subst hq; exact own_back (fun _ k => XS.iand X.here hx rfl hd rfl k) h
theorem own_ior (X : Stand p l e R s' m args below meth c T locs cells slots) (hx : p.tables.exec = Jvm.exec) {pc q : Nat} {Ls : Array Slot} {rest : List Value} (hd : decode c.code pc = .ok (.ior, 1)) {x y : Int32} (hq : pc + 1 = q) (h : own_End p e below s Q K N (T.setTop (mkF m q Ls (.int (x ||| y) :: rest))) E) : own_End p e below s Q K N (T.setTop (mkF m pc Ls (.int y :: .int x :: rest))) E := by
  subst hq; exact own_back (fun _ k => XS.ior X.here hx rfl hd rfl k) h
theorem own_ixor (X : Stand p l e R s' m args below meth c T locs cells slots) (hx : p.tables.exec = Jvm.exec) {pc q : Nat} {Ls : Array Slot} {rest : List Value} (hd : decode c.code pc = .ok (.ixor, 1)) {x y : Int32} (hq : pc + 1 = q) (h : own_End p e below s Q K N (T.setTop (mkF m q Ls (.int (x ^^^ y) :: rest))) E) : own_End p e below s Q K N (T.setTop (mkF m pc Ls (.int y :: .int x :: rest))) E := by
  subst hq; exact own_back (fun _ k => XS.ixor X.here hx rfl hd rfl k) h
theorem own_ishl (X : Stand p l e R s' m args below meth c T locs cells slots) (hx : p.tables.exec = Jvm.exec) {pc q : Nat} {Ls : Array Slot} {rest : List Value} (hd : decode c.code pc = .ok (.ishl, 1)) {x y : Int32} (hq : pc + 1 = q) (h : own_End p e below s Q K N (T.setTop (mkF m q Ls (.int (x <<< (y &&& 31)) :: rest))) E) : own_End p e below s Q K N (T.setTop (mkF m pc Ls (.int y :: .int x :: rest))) E := by
  subst hq; exact own_back (fun _ k => XS.ishl X.here hx rfl hd rfl k) h
theorem own_ishr (X : Stand p l e R s' m args below meth c T locs cells slots) (hx : p.tables.exec = Jvm.exec) {pc q : Nat} {Ls : Array Slot} {rest : List Value} (hd : decode c.code pc = .ok (.ishr, 1)) {x y : Int32} (hq : pc + 1 = q) (h : own_End p e below s Q K N (T.setTop (mkF m q Ls (.int (x >>> (y &&& 31)) :: rest))) E) : own_End p e below s Q K N (T.setTop (mkF m pc Ls (.int y :: .int x :: rest))) E := by
  subst hq; exact own_back (fun _ k => XS.ishr X.here hx rfl hd rfl k) h
theorem own_iushr (X : Stand p l e R s' m args below meth c T locs cells slots) (hx : p.tables.exec = Jvm.exec) {pc q : Nat} {Ls : Array Slot} {rest : List Value} (hd : decode c.code pc = .ok (.iushr, 1)) {x y : Int32} (hq : pc + 1 = q) (h : own_End p e below s Q K N (T.setTop (mkF m q Ls (.int ((x.toUInt32 >>> (y &&& 31).toUInt32).toInt32) :: rest))) E) : own_End p e below s Q K N (T.setTop (mkF m pc Ls (.int y :: .int x :: rest))) E := by
  subst hq; exact own_back (fun _ k => XS.iushr X.here hx rfl hd rfl k) h
theorem own_ladd (X : Stand p l e R s' m args below meth c T locs cells slots) (hx : p.tables.exec = Jvm.exec) {pc q : Nat} {Ls : Array Slot} {rest : List Value} (hd : decode c.code pc = .ok (.ladd, 1)) {x y : Int64} (hq : pc + 1 = q) (h : own_End p e below s Q K N (T.setTop (mkF m q Ls (.long (x + y) :: rest))) E) : own_End p e below s Q K N (T.setTop (mkF m pc Ls (.long y :: .long x :: rest))) E := by
  subst hq; exact own_back (fun _ k => XS.ladd X.here hx rfl hd rfl k) h
theorem own_lsub (X : Stand p l e R s' m args below meth c T locs cells slots) (hx : p.tables.exec = Jvm.exec) {pc q : Nat} {Ls : Array Slot} {rest : List Value} (hd : decode c.code pc = .ok (.lsub, 1)) {x y : Int64} (hq : pc + 1 = q) (h : own_End p e below s Q K N (T.setTop (mkF m q Ls (.long (x - y) :: rest))) E) : own_End p e below s Q K N (T.setTop (mkF m pc Ls (.long y :: .long x :: rest))) E := by
  subst hq; exact own_back (fun _ k => XS.lsub X.here hx rfl hd rfl k) h
theorem own_lmul (X : Stand p l e R s' m args below meth c T locs cells slots) (hx : p.tables.exec = Jvm.exec) {pc q : Nat} {Ls : Array Slot} {rest : List Value} (hd : decode c.code pc = .ok (.lmul, 1)) {x y : Int64} (hq : pc + 1 = q) (h : own_End p e below s Q K N (T.setTop (mkF m q Ls (.long (x * y) :: rest))) E) : own_End p e below s Q K N (T.setTop (mkF m pc Ls (.long y :: .long x :: rest))) E := by
  subst hq; exact own_back (fun _ k => XS.lmul X.here hx rfl hd rfl k) h
theorem own_land (X : Stand p l e R s' m args below meth c T locs cells slots) (hx : p.tables.exec = Jvm.exec) {pc q : Nat} {Ls : Array Slot} {rest : List Value} (hd : decode c.code pc = .ok (.land, 1)) {x y : Int64} (hq : pc + 1 = q) (h : own_End p e below s Q K N (T.setTop (mkF m q Ls (.long (x &&& y) :: rest))) E) : own_End p e below s Q K N (T.setTop (mkF m pc Ls (.long y :: .long x :: rest))) E := by
  subst hq; exact own_back (fun _ k => XS.land X.here hx rfl hd rfl k) h
theorem own_lor (X : Stand p l e R s' m args below meth c T locs cells slots) (hx : p.tables.exec = Jvm.exec) {pc q : Nat} {Ls : Array Slot} {rest : List Value} (hd : decode c.code pc = .ok (.lor, 1)) {x y : Int64} (hq : pc + 1 = q) (h : own_End p e below s Q K N (T.setTop (mkF m q Ls (.long (x ||| y) :: rest))) E) : own_End p e below s Q K N (T.setTop (mkF m pc Ls (.long y :: .long x :: rest))) E := by
  subst hq; exact own_back (fun _ k => XS.lor X.here hx rfl hd rfl k) h
theorem own_lxor (X : Stand p l e R s' m args below meth c T locs cells slots) (hx : p.tables.exec = Jvm.exec) {pc q : Nat} {Ls : Array Slot} {rest : List Value} (hd : decode c.code pc = .ok (.lxor, 1)) {x y : Int64} (hq : pc + 1 = q) (h : own_End p e below s Q K N (T.setTop (mkF m q Ls (.long (x ^^^ y) :: rest))) E) : own_End p e below s Q K N (T.setTop (mkF m pc Ls (.long y :: .long x :: rest))) E := by
  subst hq; exact own_back (fun _ k => XS.lxor X.here hx rfl hd rfl k) h
theorem own_lshl (X : Stand p l e R s' m args below meth c T locs cells slots) (hx : p.tables.exec = Jvm.exec) {pc q : Nat} {Ls : Array Slot} {rest : List Value} (hd : decode c.code pc = .ok (.lshl, 1)) {x : Int64} {y : Int32} (hq : pc + 1 = q) (h : own_End p e below s Q K N (T.setTop (mkF m q Ls (.long (x <<< (y &&& 0x3f).toInt64) :: rest))) E) : own_End p e below s Q K N (T.setTop (mkF m pc Ls (.int y :: .long x :: rest))) E := by
  subst hq; exact own_back (fun _ k => XS.lshl X.here hx rfl hd rfl k) h
theorem own_lshr (X : Stand p l e R s' m args below meth c T locs cells slots) (hx : p.tables.exec = Jvm.exec) {pc q : Nat} {Ls : Array Slot} {rest : List Value} (hd : decode c.code pc = .ok (.lshr, 1)) {x : Int64} {y : Int32} (hq : pc + 1 = q) (h : own_End p e below s Q K N (T.setTop (mkF m q Ls (.long (x >>> (y &&& 0x3f).toInt64) :: rest))) E) : own_End p e below s Q K N (T.setTop (mkF m pc Ls (.int y :: .long x :: rest))) E := by
  subst hq; exact own_back (fun _ k => XS.lshr X.here hx rfl hd rfl k) h
theorem own_lushr (X : Stand p l e R s' m args below meth c T locs cells slots) (hx : p.tables.exec = Jvm.exec) {pc q : Nat} {Ls : Array Slot} {rest : List Value} (hd : decode c.code pc = .ok (.lushr, 1)) {x : Int64} {y : Int32} (hq : pc + 1 = q) (h : own_End p e below s Q K N (T.setTop (mkF m q Ls (.long ((x.toUInt64 >>> (y &&& 0x3f).toInt64.toUInt64).toInt64) :: rest))) E) : own_End p e below s Q K N (T.setTop (mkF m pc Ls (.int y :: .long x :: rest))) E := by
  subst hq; exact own_back (fun _ k => XS.lushr X.here hx rfl hd rfl k) h
theorem own_idiv (X : Stand p l e R s' m args below meth c T locs cells slots) (hx : p.tables.exec = Jvm.exec) {pc q : Nat} {Ls : Array Slot} {rest : List Value} (hd : decode c.code pc = .ok (.idiv, 1)) {x y : Int32} (hy : y ≠ 0) (hq : pc + 1 = q) (h : own_End p e below s Q K N (T.setTop (mkF m q Ls (.int (x / y) :: rest))) E) : own_End p e below s Q K N (T.setTop (mkF m pc Ls (.int y :: .int x :: rest))) E := by
  subst hq; exact own_back (fun _ k => XS.idiv X.here hx rfl hd rfl hy k) h
theorem own_irem (X : Stand p l e R s' m args below meth c T locs cells slots) (hx : p.tables.exec = Jvm.exec) {pc q : Nat} {Ls : Array Slot} {rest : List Value} (hd : decode c.code pc = .ok (.irem, 1)) {x y : Int32} (hy : y ≠ 0) (hq : pc + 1 = q) (h : own_End p e below s Q K N (T.setTop (mkF m q Ls (.int (x % y) :: rest))) E) : own_End p e below s Q K N (T.setTop (mkF m pc Ls (.int y :: .int x :: rest))) E := by
  subst hq; exact own_back (fun _ k => iremM X hx rfl hd rfl hy k) h
theorem own_ldiv (X : Stand p l e R s' m args below meth c T locs cells slots) (hx : p.tables.exec = Jvm.exec) {pc q : Nat} {Ls : Array Slot} {rest : List Value} (hd : decode c.code pc = .ok (.ldiv, 1)) {x y : Int64} (hy : y ≠ 0) (hq : pc + 1 = q) (h : own_End p e below s Q K N (T.setTop (mkF m q Ls (.long (x / y) :: rest))) E) : own_End p e below s Q K N (T.setTop (mkF m pc Ls (.long y :: .long x :: rest))) E := by
  subst hq; exact own_back (fun _ k => XS.ldiv X.here hx rfl hd rfl hy k) h
theorem own_lrem (X : Stand p l e R s' m args below meth c T locs cells slots) (hx : p.tables.exec = Jvm.exec) {pc q : Nat} {Ls : Array Slot} {rest : List Value} (hd : decode c.code pc = .ok (.lrem, 1)) {x y : Int64} (hy : y ≠ 0) (hq : pc + 1 = q) (h : own_End p e below s Q K N (T.setTop (mkF m q Ls (.long (x - (x / y) * y) :: rest))) E) : own_End p e below s Q K N (T.setTop (mkF m pc Ls (.long y :: .long x :: rest))) E := by
  subst hq; exact own_back (fun _ k => XS.lrem X.here hx rfl hd rfl hy k) h
theorem own_ineg (X : Stand p l e R s' m args below meth c T locs cells slots) (hx : p.tables.exec = Jvm.exec) {pc q : Nat} {Ls : Array Slot} {rest : List Value} (hd : decode c.code pc = .ok (.ineg, 1)) {x : Int32} (hq : pc + 1 = q) (h : own_End p e below s Q K N (T.setTop (mkF m q Ls (.int (-x) :: rest))) E) : own_End p e below s Q K N (T.setTop (mkF m pc Ls (.int x :: rest))) E := by
  subst hq; exact own_back (fun _ k => XS.ineg X.here hx rfl hd rfl k) h
theorem own_lneg (X : Stand p l e R s' m args below meth c T locs cells slots) (hx : p.tables.exec = Jvm.exec) {pc q : Nat} {Ls : Array Slot} {rest : List Value} (hd : decode c.code pc = .ok (.lneg, 1)) {x : Int64} (hq : pc + 1 = q) (h : own_End p e below s Q K N (T.setTop (mkF m q Ls (.long (-x) :: rest))) E) : own_End p e below s Q K N (T.setTop (mkF m pc Ls (.long x :: rest))) E := by
  subst hq; exact own_back (fun _ k => XS.lneg X.here hx rfl hd rfl k) h
theorem own_i2l (X : Stand p l e R s' m args below meth c T locs cells slots) (hx : p.tables.exec = Jvm.exec) {pc q : Nat} {Ls : Array Slot} {rest : List Value} (hd : decode c.code pc = .ok (.i2l, 1)) {x : Int32} (hq : pc + 1 = q) (h : own_End p e below s Q K N (T.setTop (mkF m q Ls (.long (x.toInt64) :: rest))) E) : own_End p e below s Q K N (T.setTop (mkF m pc Ls (.int x :: rest))) E := by
  subst hq; exact own_back (fun _ k => XS.i2l X.here hx rfl hd rfl k) h
theorem own_l2i (X : Stand p l e R s' m args below meth c T locs cells slots) (hx : p.tables.exec = Jvm.exec) {pc q : Nat} {Ls : Array Slot} {rest : List Value} (hd : decode c.code pc = .ok (.l2i, 1)) {x : Int64} (hq : pc + 1 = q) (h : own_End p e below s Q K N (T.setTop (mkF m q Ls (.int (x.toInt32) :: rest))) E) : own_End p e below s Q K N (T.setTop (mkF m pc Ls (.long x :: rest))) E := by
  subst hq; exact own_back (fun _ k => XS.l2i X.here hx rfl hd rfl k) h
theorem own_i2c (X : Stand p l e R s' m args below meth c T locs cells slots) (hx : p.tables.exec = Jvm.exec) {pc q : Nat} {Ls : Array Slot} {rest : List Value} (hd : decode c.code pc = .ok (.i2c, 1)) {x : Int32} (hq : pc + 1 = q) (h : own_End p e below s Q K N (T.setTop (mkF m q Ls (.int (x.toUInt32.toUInt16.toUInt32.toInt32) :: rest))) E) : own_End p e below s Q K N (T.setTop (mkF m pc Ls (.int x :: rest))) E := by
  subst hq; exact own_back (fun _ k => XS.i2c X.here hx rfl hd rfl k) h
theorem own_i2b (X : Stand p l e R s' m args below meth c T locs cells slots) (hx : p.tables.exec = Jvm.exec) {pc q : Nat} {Ls : Array Slot} {rest : List Value} (hd : decode c.code pc = .ok (.i2b, 1)) {x : Int32} (hq : pc + 1 = q) (h : own_End p e below s Q K N (T.setTop (mkF m q Ls (.int (x.toInt8.toInt32) :: rest))) E) : own_End p e below s Q K N (T.setTop (mkF m pc Ls (.int x :: rest))) E := by
  subst hq; exact own_back (fun _ k => XS.i2b X.here hx rfl hd rfl k) h
theorem own_i2s (X : Stand p l e R s' m args below meth c T locs cells slots) (hx : p.tables.exec = Jvm.exec) {pc q : Nat} {Ls : Array Slot} {rest : List Value} (hd : decode c.code pc = .ok (.i2s, 1)) {x : Int32} (hq : pc + 1 = q) (h : own_End p e below s Q K N (T.setTop (mkF m q Ls (.int (x.toInt16.toInt32) :: rest))) E) : own_End p e below s Q K N (T.setTop (mkF m pc Ls (.int x :: rest))) E := by
  subst hq; exact own_back (fun _ k => XS.i2s X.here hx rfl hd rfl k) h
theorem own_lcmp (X : Stand p l e R s' m args below meth c T locs cells slots) (hx : p.tables.exec = Jvm.exec) {pc q : Nat} {Ls : Array Slot} {rest : List Value} (hd : decode c.code pc = .ok (.lcmp, 1)) {x y : Int64} (hq : pc + 1 = q) (h : own_End p e below s Q K N (T.setTop (mkF m q Ls (.int (lcmpW x y) :: rest))) E) : own_End p e below s Q K N (T.setTop (mkF m pc Ls (.long y :: .long x :: rest))) E := by
  subst hq; exact own_back (fun _ k => XS.lcmp X.here hx rfl hd rfl k) h
theorem own_dup (X : Stand p l e R s' m args below meth c T locs cells slots) (hx : p.tables.exec = Jvm.exec) {pc q : Nat} {Ls : Array Slot} {rest : List Value} (hd : decode c.code pc = .ok (.dup, 1)) {v : Value} (hv : v.category = 1) (hq : pc + 1 = q) (h : own_End p e below s Q K N (T.setTop (mkF m q Ls (v :: v :: rest))) E) : own_End p e below s Q K N (T.setTop (mkF m pc Ls (v :: rest))) E := by
  subst hq; exact own_back (fun _ k => XS.dup X.here hx rfl hd rfl hv k) h
theorem own_dupx1 (X : Stand p l e R s' m args below meth c T locs cells slots) (hx : p.tables.exec = Jvm.exec) {pc q : Nat} {Ls : Array Slot} {rest : List Value} (hd : decode c.code pc = .ok (.dup_x1, 1)) {v w : Value} (hv : v.category = 1) (hw : w.category = 1) (hq : pc + 1 = q) (h : own_End p e below s Q K N (T.setTop (mkF m q Ls (v :: w :: v :: rest))) E) : own_End p e below s Q K N (T.setTop (mkF m pc Ls (v :: w :: rest))) E := by
  subst hq; exact own_back (fun _ k => XS.dupX1 X.here hx rfl hd rfl hv hw k) h
theorem own_pop (X : Stand p l e R s' m args below meth c T locs cells slots) (hx : p.tables.exec = Jvm.exec) {pc q : Nat} {Ls : Array Slot} {rest : List Value} (hd : decode c.code pc = .ok (.pop, 1)) {v : Value} (hv : v.category = 1) (hq : pc + 1 = q) (h : own_End p e below s Q K N (T.setTop (mkF m q Ls (rest))) E) : own_End p e below s Q K N (T.setTop (mkF m pc Ls (v :: rest))) E := by
  subst hq; exact own_back (fun _ k => XS.pop X.here hx rfl hd rfl hv k) h
theorem own_anull (X : Stand p l e R s' m args below meth c T locs cells slots) (hx : p.tables.exec = Jvm.exec) {pc q : Nat} {Ls : Array Slot} {rest : List Value} (hd : decode c.code pc = .ok (.aconst_null, 1))  (hq : pc + 1 = q) (h : own_End p e below s Q K N (T.setTop (mkF m q Ls (.null :: rest))) E) : own_End p e below s Q K N (T.setTop (mkF m pc Ls (rest))) E := by
  subst hq; exact own_back (fun _ k => XS.aconstNull X.here hx rfl hd k) h
theorem own_iload (X : Stand p l e R s' m args below meth c T locs cells slots) (hx : p.tables.exec = Jvm.exec) {pc q : Nat} {Ls : Array Slot} {rest : List Value} {k : Nat} {v : Int32} (hd : decode c.code pc = .ok (.iload k, 2)) (hl : Ls[k]? = some (.val (.int v))) (hq : pc + 2 = q) (h : own_End p e below s Q K N (T.setTop (mkF m q Ls (.int v :: rest))) E) : own_End p e below s Q K N (T.setTop (mkF m pc Ls (rest))) E := by
  subst hq; exact own_back (fun _ k => XS.iload X.here hx rfl hd hl k) h
theorem own_iloadN (X : Stand p l e R s' m args below meth c T locs cells slots) (hx : p.tables.exec = Jvm.exec) {pc q : Nat} {Ls : Array Slot} {rest : List Value} {k : Fin 4} {v : Int32} (hd : decode c.code pc = .ok (.iload_n k, 1)) (hl : Ls[k.val]? = some (.val (.int v))) (hq : pc + 1 = q) (h : own_End p e below s Q K N (T.setTop (mkF m q Ls (.int v :: rest))) E) : own_End p e below s Q K N (T.setTop (mkF m pc Ls (rest))) E := by
  subst hq; exact own_back (fun _ k => XS.iloadN X.here hx rfl hd hl k) h
theorem own_istore (X : Stand p l e R s' m args below meth c T locs cells slots) (hx : p.tables.exec = Jvm.exec) {pc q : Nat} {Ls : Array Slot} {rest : List Value} {k : Nat} {v : Int32} {l' : Array Slot} (hd : decode c.code pc = .ok (.istore k, 2)) (hl : storeLocals Ls k (.int v) = some l') (hq : pc + 2 = q) (h : own_End p e below s Q K N (T.setTop (mkF m q l' (rest))) E) : own_End p e below s Q K N (T.setTop (mkF m pc Ls (.int v :: rest))) E := by
  subst hq; exact own_back (fun _ k => XS.istore X.here hx rfl hd rfl hl k) h
theorem own_istoreN (X : Stand p l e R s' m args below meth c T locs cells slots) (hx : p.tables.exec = Jvm.exec) {pc q : Nat} {Ls : Array Slot} {rest : List Value} {k : Fin 4} {v : Int32} {l' : Array Slot} (hd : decode c.code pc = .ok (.istore_n k, 1)) (hl : storeLocals Ls k.val (.int v) = some l') (hq : pc + 1 = q) (h : own_End p e below s Q K N (T.setTop (mkF m q l' (rest))) E) : own_End p e below s Q K N (T.setTop (mkF m pc Ls (.int v :: rest))) E := by
  subst hq; exact own_back (fun _ k => XS.istoreN X.here hx rfl hd rfl hl k) h
theorem own_lload (X : Stand p l e R s' m args below meth c T locs cells slots) (hx : p.tables.exec = Jvm.exec) {pc q : Nat} {Ls : Array Slot} {rest : List Value} {k : Nat} {v : Int64} (hd : decode c.code pc = .ok (.lload k, 2)) (hl : Ls[k]? = some (.val (.long v))) (hq : pc + 2 = q) (h : own_End p e below s Q K N (T.setTop (mkF m q Ls (.long v :: rest))) E) : own_End p e below s Q K N (T.setTop (mkF m pc Ls (rest))) E := by
  subst hq; exact own_back (fun _ k => XS.lload X.here hx rfl hd hl k) h
theorem own_lloadN (X : Stand p l e R s' m args below meth c T locs cells slots) (hx : p.tables.exec = Jvm.exec) {pc q : Nat} {Ls : Array Slot} {rest : List Value} {k : Fin 4} {v : Int64} (hd : decode c.code pc = .ok (.lload_n k, 1)) (hl : Ls[k.val]? = some (.val (.long v))) (hq : pc + 1 = q) (h : own_End p e below s Q K N (T.setTop (mkF m q Ls (.long v :: rest))) E) : own_End p e below s Q K N (T.setTop (mkF m pc Ls (rest))) E := by
  subst hq; exact own_back (fun _ k => XS.lloadN X.here hx rfl hd hl k) h
theorem own_lstore (X : Stand p l e R s' m args below meth c T locs cells slots) (hx : p.tables.exec = Jvm.exec) {pc q : Nat} {Ls : Array Slot} {rest : List Value} {k : Nat} {v : Int64} {l' : Array Slot} (hd : decode c.code pc = .ok (.lstore k, 2)) (hl : storeLocals Ls k (.long v) = some l') (hq : pc + 2 = q) (h : own_End p e below s Q K N (T.setTop (mkF m q l' (rest))) E) : own_End p e below s Q K N (T.setTop (mkF m pc Ls (.long v :: rest))) E := by
  subst hq; exact own_back (fun _ k => XS.lstore X.here hx rfl hd rfl hl k) h
theorem own_lstoreN (X : Stand p l e R s' m args below meth c T locs cells slots) (hx : p.tables.exec = Jvm.exec) {pc q : Nat} {Ls : Array Slot} {rest : List Value} {k : Fin 4} {v : Int64} {l' : Array Slot} (hd : decode c.code pc = .ok (.lstore_n k, 1)) (hl : storeLocals Ls k.val (.long v) = some l') (hq : pc + 1 = q) (h : own_End p e below s Q K N (T.setTop (mkF m q l' (rest))) E) : own_End p e below s Q K N (T.setTop (mkF m pc Ls (.long v :: rest))) E := by
  subst hq; exact own_back (fun _ k => XS.lstoreN X.here hx rfl hd rfl hl k) h
theorem own_aload (X : Stand p l e R s' m args below meth c T locs cells slots) (hx : p.tables.exec = Jvm.exec) {pc q : Nat} {Ls : Array Slot} {rest : List Value} {k : Nat} {v : Value} (hd : decode c.code pc = .ok (.aload k, 2)) (hl : Ls[k]? = some (.val v)) (hv : v.isRef = true) (hq : pc + 2 = q) (h : own_End p e below s Q K N (T.setTop (mkF m q Ls (v :: rest))) E) : own_End p e below s Q K N (T.setTop (mkF m pc Ls (rest))) E := by
  subst hq; exact own_back (fun _ k => XS.aload X.here hx rfl hd hl hv k) h
theorem own_aloadN (X : Stand p l e R s' m args below meth c T locs cells slots) (hx : p.tables.exec = Jvm.exec) {pc q : Nat} {Ls : Array Slot} {rest : List Value} {k : Fin 4} {v : Value} (hd : decode c.code pc = .ok (.aload_n k, 1)) (hl : Ls[k.val]? = some (.val v)) (hv : v.isRef = true) (hq : pc + 1 = q) (h : own_End p e below s Q K N (T.setTop (mkF m q Ls (v :: rest))) E) : own_End p e below s Q K N (T.setTop (mkF m pc Ls (rest))) E := by
  subst hq; exact own_back (fun _ k => XS.aloadN X.here hx rfl hd hl hv k) h
theorem own_astore (X : Stand p l e R s' m args below meth c T locs cells slots) (hx : p.tables.exec = Jvm.exec) {pc q : Nat} {Ls : Array Slot} {rest : List Value} {k : Nat} {v : Value} {l' : Array Slot} (hd : decode c.code pc = .ok (.astore k, 2)) (hv : v.isRef = true) (hl : storeLocals Ls k v = some l') (hq : pc + 2 = q) (h : own_End p e below s Q K N (T.setTop (mkF m q l' (rest))) E) : own_End p e below s Q K N (T.setTop (mkF m pc Ls (v :: rest))) E := by
  subst hq; exact own_back (fun _ k => XS.astore X.here hx rfl hd rfl hv hl k) h
theorem own_astoreN (X : Stand p l e R s' m args below meth c T locs cells slots) (hx : p.tables.exec = Jvm.exec) {pc q : Nat} {Ls : Array Slot} {rest : List Value} {k : Fin 4} {v : Value} {l' : Array Slot} (hd : decode c.code pc = .ok (.astore_n k, 1)) (hv : v.isRef = true) (hl : storeLocals Ls k.val v = some l') (hq : pc + 1 = q) (h : own_End p e below s Q K N (T.setTop (mkF m q l' (rest))) E) : own_End p e below s Q K N (T.setTop (mkF m pc Ls (v :: rest))) E := by
  subst hq; exact own_back (fun _ k => XS.astoreN X.here hx rfl hd rfl hv hl k) h
theorem own_iinc (X : Stand p l e R s' m args below meth c T locs cells slots) (hx : p.tables.exec = Jvm.exec) {pc q : Nat} {Ls : Array Slot} {rest : List Value} {k : Nat} {cst : Int} {x z : Int32} {l' : Array Slot} (hd : decode c.code pc = .ok (.iinc k cst, 3)) (hl : Ls[k]? = some (.val (.int x))) (hz : Int32.ofInt cst = z) (hl' : storeLocals Ls k (.int (x + z)) = some l') (hq : pc + 3 = q) (h : own_End p e below s Q K N (T.setTop (mkF m q l' (rest))) E) : own_End p e below s Q K N (T.setTop (mkF m pc Ls (rest))) E := by
  subst hq hz; exact own_back (fun _ k => XS.iinc X.here hx rfl hd hl hl' k) h
theorem own_iconst (X : Stand p l e R s' m args below meth c T locs cells slots) (hx : p.tables.exec = Jvm.exec) {pc q : Nat} {Ls : Array Slot} {rest : List Value} {i : Int} {z : Int32} (hd : decode c.code pc = .ok (.iconst i, 1)) (hz : Int32.ofInt i = z) (hq : pc + 1 = q) (h : own_End p e below s Q K N (T.setTop (mkF m q Ls (.int z :: rest))) E) : own_End p e below s Q K N (T.setTop (mkF m pc Ls (rest))) E := by
  subst hq hz; exact own_back (fun _ k => XS.iconst X.here hx rfl hd k) h
theorem own_bipush (X : Stand p l e R s' m args below meth c T locs cells slots) (hx : p.tables.exec = Jvm.exec) {pc q : Nat} {Ls : Array Slot} {rest : List Value} {i : Int} {z : Int32} (hd : decode c.code pc = .ok (.bipush i, 2)) (hz : (Int8.ofInt i).toInt32 = z) (hq : pc + 2 = q) (h : own_End p e below s Q K N (T.setTop (mkF m q Ls (.int z :: rest))) E) : own_End p e below s Q K N (T.setTop (mkF m pc Ls (rest))) E := by
  subst hq hz; exact own_back (fun _ k => XS.bipush X.here hx rfl hd k) h
theorem own_sipush (X : Stand p l e R s' m args below meth c T locs cells slots) (hx : p.tables.exec = Jvm.exec) {pc q : Nat} {Ls : Array Slot} {rest : List Value} {i : Int} {z : Int32} (hd : decode c.code pc = .ok (.sipush i, 3)) (hz : (Int16.ofInt i).toInt32 = z) (hq : pc + 3 = q) (h : own_End p e below s Q K N (T.setTop (mkF m q Ls (.int z :: rest))) E) : own_End p e below s Q K N (T.setTop (mkF m pc Ls (rest))) E := by
  subst hq hz; exact own_back (fun _ k => XS.sipush X.here hx rfl hd k) h
theorem own_lconst (X : Stand p l e R s' m args below meth c T locs cells slots) (hx : p.tables.exec = Jvm.exec) {pc q : Nat} {Ls : Array Slot} {rest : List Value} {i : Fin 2} {z : Int64} (hd : decode c.code pc = .ok (.lconst i, 1)) (hz : Int64.ofNat i = z) (hq : pc + 1 = q) (h : own_End p e below s Q K N (T.setTop (mkF m q Ls (.long z :: rest))) E) : own_End p e below s Q K N (T.setTop (mkF m pc Ls (rest))) E := by
  subst hq hz; exact own_back (fun _ k => XS.lconst X.here hx rfl hd k) h
theorem own_goto (X : Stand p l e R s' m args below meth c T locs cells slots) (hx : p.tables.exec = Jvm.exec) {pc q : Nat} {Ls : Array Slot} {rest : List Value} {o : Int} (hd : decode c.code pc = .ok (.goto o, 3)) (ho : 0 ≤ (pc : Int) + o) (hp : ((pc : Int) + o).toNat = q) (h : own_End p e below s Q K N (T.setTop (mkF m q Ls (rest))) E) : own_End p e below s Q K N (T.setTop (mkF m pc Ls (rest))) E := by
  exact own_back (fun _ k => XS.goto X.here hx rfl (pc0 := pc) (pc' := q) rfl hd ho hp k) h
theorem own_ifY (X : Stand p l e R s' m args below meth c T locs cells slots) (hx : p.tables.exec = Jvm.exec) {pc q : Nat} {Ls : Array Slot} {rest : List Value} {cd : ClassFile.Cond} {x : Int32} {o : Int} (hd : decode c.code pc = .ok (.ifCond cd o, 3)) (hc : if_icmp.holds cd x 0 = true) (ho : 0 ≤ (pc : Int) + o) (hp : ((pc : Int) + o).toNat = q) (h : own_End p e below s Q K N (T.setTop (mkF m q Ls (rest))) E) : own_End p e below s Q K N (T.setTop (mkF m pc Ls (.int x :: rest))) E := by
  exact own_back (fun _ k => XS.ifYes X.here hx rfl (pc0 := pc) (pc' := q) rfl hd rfl ((if0 _ _).trans hc) ho hp k) h
theorem own_ifN (X : Stand p l e R s' m args below meth c T locs cells slots) (hx : p.tables.exec = Jvm.exec) {pc q : Nat} {Ls : Array Slot} {rest : List Value} {cd : ClassFile.Cond} {x : Int32} {o : Int} (hd : decode c.code pc = .ok (.ifCond cd o, 3)) (hc : if_icmp.holds cd x 0 = false) (hq : pc + 3 = q) (h : own_End p e below s Q K N (T.setTop (mkF m q Ls (rest))) E) : own_End p e below s Q K N (T.setTop (mkF m pc Ls (.int x :: rest))) E := by
  subst hq; exact own_back (fun _ k => XS.ifNo X.here hx rfl hd rfl ((if0 _ _).trans hc) k) h
theorem own_icY (X : Stand p l e R s' m args below meth c T locs cells slots) (hx : p.tables.exec = Jvm.exec) {pc q : Nat} {Ls : Array Slot} {rest : List Value} {cd : ClassFile.Cond} {x y : Int32} {o : Int} (hd : decode c.code pc = .ok (.if_icmp cd o, 3)) (hc : if_icmp.holds cd x y = true) (ho : 0 ≤ (pc : Int) + o) (hp : ((pc : Int) + o).toNat = q) (h : own_End p e below s Q K N (T.setTop (mkF m q Ls (rest))) E) : own_End p e below s Q K N (T.setTop (mkF m pc Ls (.int y :: .int x :: rest))) E := by
  exact own_back (fun _ k => XS.icmpYes X.here hx rfl (pc0 := pc) (pc' := q) rfl hd rfl hc ho hp k) h
theorem own_icN (X : Stand p l e R s' m args below meth c T locs cells slots) (hx : p.tables.exec = Jvm.exec) {pc q : Nat} {Ls : Array Slot} {rest : List Value} {cd : ClassFile.Cond} {x y : Int32} {o : Int} (hd : decode c.code pc = .ok (.if_icmp cd o, 3)) (hc : if_icmp.holds cd x y = false) (hq : pc + 3 = q) (h : own_End p e below s Q K N (T.setTop (mkF m q Ls (rest))) E) : own_End p e below s Q K N (T.setTop (mkF m pc Ls (.int y :: .int x :: rest))) E := by
  subst hq; exact own_back (fun _ k => XS.icmpNo X.here hx rfl hd rfl hc k) h
theorem own_lcY (X : Stand p l e R s' m args below meth c T locs cells slots) (hx : p.tables.exec = Jvm.exec) {pc r q : Nat} {Ls : Array Slot} {rest : List Value} {cd : ClassFile.Cond} {x y : Int64} {o : Int} (hd : decode c.code pc = .ok (.lcmp, 1)) (hr : pc + 1 = r) (hd' : decode c.code r = .ok (.ifCond cd o, 3)) (hc : if_icmp.holds cd (lcmpW x y) 0 = true) (ho : 0 ≤ (r : Int) + o) (hp : ((r : Int) + o).toNat = q) (h : own_End p e below s Q K N (T.setTop (mkF m q Ls (rest))) E) : own_End p e below s Q K N (T.setTop (mkF m pc Ls (.long y :: .long x :: rest))) E := own_lcmp X hx hd hr (own_ifY X hx hd' hc ho hp h)
theorem own_lcN (X : Stand p l e R s' m args below meth c T locs cells slots) (hx : p.tables.exec = Jvm.exec) {pc r q : Nat} {Ls : Array Slot} {rest : List Value} {cd : ClassFile.Cond} {x y : Int64} {o : Int} (hd : decode c.code pc = .ok (.lcmp, 1)) (hr : pc + 1 = r) (hd' : decode c.code r = .ok (.ifCond cd o, 3)) (hc : if_icmp.holds cd (lcmpW x y) 0 = false) (hq : r + 3 = q) (h : own_End p e below s Q K N (T.setTop (mkF m q Ls (rest))) E) : own_End p e below s Q K N (T.setTop (mkF m pc Ls (.long y :: .long x :: rest))) E := own_lcmp X hx hd hr (own_ifN X hx hd' hc hq h)
theorem own_tlt {x y : Int64} (h : x < y) : if_icmp.holds .lt (lcmpW x y) 0 = true ∧ if_icmp.holds .ge (lcmpW x y) 0 = false ∧ if_icmp.holds .gt (lcmpW y x) 0 = true ∧ if_icmp.holds .le (lcmpW y x) 0 = false :=
  ⟨(tlt ((lw_lt x y).mpr h)).1, (tlt ((lw_lt x y).mpr h)).2.1, (tlt ((lw_gt y x).mpr h)).2.2.1, (tlt ((lw_gt y x).mpr h)).2.2.2⟩
theorem own_flt {x y : Int64} (h : ¬ x < y) : if_icmp.holds .lt (lcmpW x y) 0 = false ∧ if_icmp.holds .ge (lcmpW x y) 0 = true ∧ if_icmp.holds .gt (lcmpW y x) 0 = false ∧ if_icmp.holds .le (lcmpW y x) 0 = true :=
  ⟨(flt (fun q => h ((lw_lt x y).mp q))).1, (flt (fun q => h ((lw_lt x y).mp q))).2.1, (flt (fun q => h ((lw_gt y x).mp q))).2.2.1, (flt (fun q => h ((lw_gt y x).mp q))).2.2.2⟩
theorem own_teq {x y : Int64} (h : x = y) : if_icmp.holds .eq (lcmpW x y) 0 = true ∧ if_icmp.holds .ne (lcmpW x y) 0 = false := teq ((lw_eq x y).mpr h)
theorem own_feq {x y : Int64} (h : ¬ x = y) : if_icmp.holds .eq (lcmpW x y) 0 = false ∧ if_icmp.holds .ne (lcmpW x y) 0 = true := feq (fun q => h ((lw_eq x y).mp q))
theorem own_retV (X : Stand p l e R s m args below meth c T locs cells slots) (hx : p.tables.exec = Jvm.exec) {pc : Nat} {Ls : Array Slot}  (hret : meth.sig.returnType = none) (hlk : meth.locks = false) (hc : cells ≤ K) (hs : slots ≤ N) (hd : decode c.code pc = .ok (.return_, 1)) (hQ : Q none T.heap locs) : own_End p e below s Q K N (T.setTop (mkF m pc Ls [])) := by
  obtain ⟨fs, hr, hrun, hended, hW, hsame⟩ := X.leave (v := none) (fun _ => rfl) hlk
  refine ⟨_, _, ?_, hrun, hended, _, _, rfl, hQ, ⟨_, rfl⟩, hW, hsame.mono hc hs⟩
  exact X.returnOut hx hret hd hr
theorem own_retI (X : Stand p l e R s m args below meth c T locs cells slots) (hx : p.tables.exec = Jvm.exec) {pc : Nat} {Ls : Array Slot} {rest : List Value} {z : Int32} (hret : meth.sig.returnType = some .int) (hlk : meth.locks = false) (hc : cells ≤ K) (hs : slots ≤ N) (hd : decode c.code pc = .ok (.ireturn, 1)) (hQ : Q (some (.int z)) T.heap locs) : own_End p e below s Q K N (T.setTop (mkF m pc Ls (.int z :: rest))) := by
  obtain ⟨fs, hr, hrun, hended, hW, hsame⟩ := X.leave (v := (some (.int z))) (fun h => by rw [hret] at h; cases h) hlk
  refine ⟨_, _, ?_, hrun, hended, _, _, rfl, hQ, ⟨_, rfl⟩, hW, hsame.mono hc hs⟩
  have hm' : T.vm.method? m = some meth := X.method'
  have hn : narrow .int (.int z) = .int z := rfl
  show Steps p.tables e below (T.setTop { method := m, pc := pc, locals := Ls, stack := _ :: rest, locked := none }) _
  jvm_step X.here [X.here.top, hx, hd, hm', hret, hn]
  first | (intro acts; rw [hr _ acts rfl rfl rfl]) | rw [hr _ _ rfl rfl rfl]
  exact Steps.refl _
theorem own_retJ (X : Stand p l e R s m args below meth c T locs cells slots) (hx : p.tables.exec = Jvm.exec) {pc : Nat} {Ls : Array Slot} {rest : List Value} {z : Int64} (hret : meth.sig.returnType = some .long) (hlk : meth.locks = false) (hc : cells ≤ K) (hs : slots ≤ N) (hd : decode c.code pc = .ok (.lreturn, 1)) (hQ : Q (some (.long z)) T.heap locs) : own_End p e below s Q K N (T.setTop (mkF m pc Ls (.long z :: rest))) := by
  obtain ⟨fs, hr, hrun, hended, hW, hsame⟩ := X.leave (v := (some (.long z))) (fun h => by rw [hret] at h; cases h) hlk
  refine ⟨_, _, ?_, hrun, hended, _, _, rfl, hQ, ⟨_, rfl⟩, hW, hsame.mono hc hs⟩
  have hm' : T.vm.method? m = some meth := X.method'
  have hn : narrow .long (.long z) = .long z := rfl
  show Steps p.tables e below (T.setTop { method := m, pc := pc, locals := Ls, stack := _ :: rest, locked := none }) _
  jvm_step X.here [X.here.top, hx, hd, hm', hret, hn]
  first | (intro acts; rw [hr _ acts rfl rfl rfl]) | rw [hr _ _ rfl rfl rfl]
  exact Steps.refl _
theorem own_retN (X : Stand p l e R s m args below meth c T locs cells slots) (hx : p.tables.exec = Jvm.exec) {pc : Nat} {Ls : Array Slot} {rest : List Value} {z : Int32} {t : FieldType} (ht : t = .boolean ∨ t = .byte ∨ t = .char ∨ t = .short) (hret : meth.sig.returnType = some t) (hlk : meth.locks = false) (hc : cells ≤ K) (hs : slots ≤ N) (hd : decode c.code pc = .ok (.ireturn, 1)) (hQ : Q (some (.int (nar t z))) T.heap locs) : own_End p e below s Q K N (T.setTop (mkF m pc Ls (.int z :: rest))) := by
  obtain ⟨fs, hr, hrun, hended, hW, hsame⟩ := X.leave (v := (some (.int (nar t z)))) (fun h => by rw [hret] at h; cases h) hlk
  refine ⟨_, _, ?_, hrun, hended, _, _, rfl, hQ, ⟨_, rfl⟩, hW, hsame.mono hc hs⟩
  exact retN X hx hret ht hd hr
theorem own_b (P : Prop) [Decidable P] : nar .boolean (if P then (1 : Int32) else 0) = if P then (1 : Int32) else 0 := by
  split <;> rfl
end Own
section OwnW
variable {p : Program} {l : Launch} {e : Env} {R : Room} {s : State} {m : MethodId} {args : Array Value} {below : List Frame} {meth : Method} {c : Code} {T : State} {locs : List Loc} {cells slots : Nat} {Q : Option Value → Heap → List Loc → Prop} {K N : Nat} {Z : State} {h h' : Heap}
theorem own_since0 : s.Since s.vm 0 := ⟨State.Warmed39.refl s, fun j p h1 h2 => absurd (Array.getElem?_eq_some_iff.mp h2).1 (Nat.not_lt.mpr h1)⟩
theorem own_chv0 {vm : Vm} : CHv Z [] vm h := fun _ hp => by cases hp
theorem own_StaK {ws : List Addr} {C n d : String} {v : Value} (S : Sta Z h C n d v) (K : Keep h h' ws) (q : ∀ o ∈ ws, ∃ C', Exa Z h o C') : Sta Z h' C n d v := by
  obtain ⟨cf, i, k, f, st, cell, h1, h2, h3, h4, h5, h6, h7⟩ := S
  refine ⟨cf, i, k, f, st, cell, h1, h2, h3, h4, K.2.1 st cell h5 (fun hm => ?_), h6, h7⟩
  obtain ⟨C', cl, k', g1, -, -, g4, -⟩ := q st hm
  cases h5.symm.trans g1
  rw [g4] at h6; cases h6
theorem own_retNW {vm : Vm} {kk : Nat} (X : Stand p l e R (s.setVm vm) m args below meth c T locs cells slots) (hx : p.tables.exec = Jvm.exec) (hS : s.Since vm kk) (hk : kk ≤ T.heap.size) {pc : Nat} {Ls : Array Slot} {rest : List Value} {z : Int32} {t : FieldType} (ht : t = .boolean ∨ t = .byte ∨ t = .char ∨ t = .short) (hret : meth.sig.returnType = some t) (hlk : meth.locks = false) (hc : cells ≤ K) (hs : slots ≤ N) (hd : decode c.code pc = .ok (.ireturn, 1)) (hQ : Q (some (.int (nar t z))) T.heap locs) : own_End p e below s Q K N (T.setTop (mkF m pc Ls (.int z :: rest))) ReturnedEndW := by
  obtain ⟨fs, hr, hrun, hended, hE⟩ := Stand.leaveW X hS hk (v := some (.int (nar t z))) (fun h => by rw [hret] at h; cases h) hlk
  refine ⟨_, _, ?_, hrun, hended, _, _, rfl, hQ, hE.1, hE.2.1, hE.2.2.1, hE.2.2.2.mono hc hs⟩
  exact retN X hx hret ht hd hr
end OwnW
theorem own_sat {Z : State} {a0 : Array Value} (hw : ∀ d ∈ tables_1, d.before a0 Z = true) : ∀ d ∈ Bundle.stringAtoms, d.before a0 Z = true := fun d hd => by
  simp only [Bundle.stringAtoms, List.mem_cons, List.not_mem_nil, or_false] at hd
  rcases hd with rfl | rfl | rfl | rfl | rfl | rfl | rfl
  · exact (hw _ (List.mem_of_getElem? (i := 12) rfl))
  · exact (hw _ (List.mem_of_getElem? (i := 13) rfl))
  · exact (hw _ (List.mem_of_getElem? (i := 14) rfl))
  · exact (hw _ (List.mem_of_getElem? (i := 15) rfl))
  · exact (hw _ (List.mem_of_getElem? (i := 16) rfl))
  · exact (hw _ (List.mem_of_getElem? (i := 17) rfl))
  · exact (hw _ (List.mem_of_getElem? (i := 18) rfl))
theorem own_d1_0 : decode jdk_29_method_69_code 0 = .ok (.iload_n 0, 1) := by decide +kernel
theorem own_d1_1 : decode jdk_29_method_69_code 1 = .ok (.iload_n 1, 1) := by decide +kernel
theorem own_d1_2 : decode jdk_29_method_69_code 2 = .ok (.if_icmp .gt 7, 3) := by decide +kernel
theorem own_d1_9 : decode jdk_29_method_69_code 9 = .ok (.iload_n 1, 1) := by decide +kernel
theorem own_d1_10 : decode jdk_29_method_69_code 10 = .ok (.ireturn, 1) := by decide +kernel
theorem own_d1_5 : decode jdk_29_method_69_code 5 = .ok (.iload_n 0, 1) := by decide +kernel
theorem own_d1_6 : decode jdk_29_method_69_code 6 = .ok (.goto 4, 3) := by decide +kernel
def own_F1 (p0 : Int32) (p1 : Int32) : Int32 := (if p1 < p0 then p1 else p0)
def own_Q1 (Z : State) (p0 : Int32) (p1 : Int32) (h0 : Heap) (n0 : Nat) (v : Option Value) (h : Heap) (L : List Loc) : Prop := v = some (.int (own_F1 p0 p1)) ∧ Fr n0 L ∧ h = h0
theorem own_ef_rm1 (m : MethodId) (p0 : Int32) (p1 : Int32) : entryFrame m #[(.int p0), (.int p1)] 2 = mkF m 0 #[.val (.int p0), .val (.int p1)] [] := by first | (simp [entryFrame, mkF, argsToLocals, Value.category]; done) | rfl
set_option maxRecDepth 65536 in
set_option maxHeartbeats 40000000 in
theorem own_rm1 (l : Launch) (Z : State) (a0 : Array Value) (hw : ∀ d ∈ tables_1, d.before a0 Z = true) (ws : List Jvm.Cond) (p0 : Int32) (p1 : Int32) (h0 : Heap) (n0 : Nat) (Z0 : n0 ≤ h0.size) :
    MetFree l (⟨"java/lang/Math", "min", "(II)I"⟩ : MethodName) (head1 (Jvm.Cond.code (⟨"java/lang/Math", "min", "(II)I"⟩ : MethodName) jdk_29_method_69_code 2 (some .int) :: ws) ({ frames := 0, cells := 0, slots := 0, locals := 0 } : Room)) (fun a U => a = #[(.int p0), (.int p1)] ∧ Z.Warmed39 U.vm ∧ U.heap = h0) (fun _ _ _ _ _ => True) (fun _ U o U' => ∃ v L, o = .returned v ∧ own_Q1 Z p0 p1 h0 n0 v U'.heap L ∧ FrameEnd U o U' L ({ frames := 0, cells := 0, slots := 0, locals := 0 } : Room).cells ({ frames := 0, cells := 0, slots := 0, locals := 0 } : Room).slots) := by
  refine MetFree.of_bodySF (Jvm.Free.JP.mathPlain rfl (by decide +kernel)) hisR ?_
  intro p e s m args below meth c s₁ Bd hml0 hP hK
  obtain ⟨rfl, hZ, hh⟩ := hP
  have hx := Bd.exec
  have hby := Bd.bytes
  have hml : c.maxLocals = 2 := hml0
  have hown : s.vm.findClass "java/lang/Math" = some m.cls := findClass_of_methodNamed Bd.named
  have hnm := (name_of_methodNamed Bd.named Bd.method).1
  have X0 : Stand p l e ({ frames := 0, cells := 0, slots := 0, locals := 0 } : Room) s m #[(.int p0), (.int p1)] below meth c s₁ [] 0 0 := Stand.of_body Bd
  have e0 : s₁.heap = h0 := by rw [← hh, Bd.state]; rfl
  have N0 := Fr.nil n0
  show own_End p e below s (own_Q1 Z p0 p1 h0 n0) ({ frames := 0, cells := 0, slots := 0, locals := 0 } : Room).cells ({ frames := 0, cells := 0, slots := 0, locals := 0 } : Room).slots (s₁.setTop (entryFrame m #[(.int p0), (.int p1)] 2))
  rw [own_ef_rm1]
  refine own_iloadN X0 hx (hb hby own_d1_0) rfl (q := 1) rfl ?_
  refine own_iloadN X0 hx (hb hby own_d1_1) rfl (q := 2) rfl ?_
  by_cases hc2_1 : p1 < p0
  · refine own_icY X0 hx (hb hby own_d1_2) (tlt hc2_1).2.2.1 (q := 9) (by decide) (by decide) ?_
    refine own_iloadN X0 hx (hb hby own_d1_9) rfl (q := 10) rfl ?_
    refine own_retI X0 hx Bd.returns Bd.notSynchronized (by decide) (by decide) (hb hby own_d1_10) ?_
    show own_Q1 Z p0 p1 h0 n0 _ s₁.heap _
    exact ⟨(by simp only [own_F1, if_pos hc2_1]), N0, e0⟩
  · refine own_icN X0 hx (hb hby own_d1_2) (flt hc2_1).2.2.1 (q := 5) rfl ?_
    refine own_iloadN X0 hx (hb hby own_d1_5) rfl (q := 6) rfl ?_
    refine own_goto X0 hx (hb hby own_d1_6) (q := 10) (by decide) (by decide) ?_
    refine own_retI X0 hx Bd.returns Bd.notSynchronized (by decide) (by decide) (hb hby own_d1_10) ?_
    show own_Q1 Z p0 p1 h0 n0 _ s₁.heap _
    exact ⟨(by simp only [own_F1, if_neg hc2_1]), N0, e0⟩
theorem own_d2_0 : decode jdk_29_method_65_code 0 = .ok (.iload_n 0, 1) := by decide +kernel
theorem own_d2_1 : decode jdk_29_method_65_code 1 = .ok (.iload_n 1, 1) := by decide +kernel
theorem own_d2_2 : decode jdk_29_method_65_code 2 = .ok (.if_icmp .lt 7, 3) := by decide +kernel
theorem own_d2_9 : decode jdk_29_method_65_code 9 = .ok (.iload_n 1, 1) := by decide +kernel
theorem own_d2_10 : decode jdk_29_method_65_code 10 = .ok (.ireturn, 1) := by decide +kernel
theorem own_d2_5 : decode jdk_29_method_65_code 5 = .ok (.iload_n 0, 1) := by decide +kernel
theorem own_d2_6 : decode jdk_29_method_65_code 6 = .ok (.goto 4, 3) := by decide +kernel
def own_F2 (p0 : Int32) (p1 : Int32) : Int32 := (if p0 < p1 then p1 else p0)
def own_Q2 (Z : State) (p0 : Int32) (p1 : Int32) (h0 : Heap) (n0 : Nat) (v : Option Value) (h : Heap) (L : List Loc) : Prop := v = some (.int (own_F2 p0 p1)) ∧ Fr n0 L ∧ h = h0
theorem own_ef_rm2 (m : MethodId) (p0 : Int32) (p1 : Int32) : entryFrame m #[(.int p0), (.int p1)] 2 = mkF m 0 #[.val (.int p0), .val (.int p1)] [] := by first | (simp [entryFrame, mkF, argsToLocals, Value.category]; done) | rfl
set_option maxRecDepth 65536 in
set_option maxHeartbeats 40000000 in
theorem own_rm2 (l : Launch) (Z : State) (a0 : Array Value) (hw : ∀ d ∈ tables_1, d.before a0 Z = true) (ws : List Jvm.Cond) (p0 : Int32) (p1 : Int32) (h0 : Heap) (n0 : Nat) (Z0 : n0 ≤ h0.size) :
    MetFree l (⟨"java/lang/Math", "max", "(II)I"⟩ : MethodName) (head1 (Jvm.Cond.code (⟨"java/lang/Math", "max", "(II)I"⟩ : MethodName) jdk_29_method_65_code 2 (some .int) :: ws) ({ frames := 0, cells := 0, slots := 0, locals := 0 } : Room)) (fun a U => a = #[(.int p0), (.int p1)] ∧ Z.Warmed39 U.vm ∧ U.heap = h0) (fun _ _ _ _ _ => True) (fun _ U o U' => ∃ v L, o = .returned v ∧ own_Q2 Z p0 p1 h0 n0 v U'.heap L ∧ FrameEnd U o U' L ({ frames := 0, cells := 0, slots := 0, locals := 0 } : Room).cells ({ frames := 0, cells := 0, slots := 0, locals := 0 } : Room).slots) := by
  refine MetFree.of_bodySF (Jvm.Free.JP.mathPlain rfl (by decide +kernel)) hisR ?_
  intro p e s m args below meth c s₁ Bd hml0 hP hK
  obtain ⟨rfl, hZ, hh⟩ := hP
  have hx := Bd.exec
  have hby := Bd.bytes
  have hml : c.maxLocals = 2 := hml0
  have hown : s.vm.findClass "java/lang/Math" = some m.cls := findClass_of_methodNamed Bd.named
  have hnm := (name_of_methodNamed Bd.named Bd.method).1
  have X0 : Stand p l e ({ frames := 0, cells := 0, slots := 0, locals := 0 } : Room) s m #[(.int p0), (.int p1)] below meth c s₁ [] 0 0 := Stand.of_body Bd
  have e0 : s₁.heap = h0 := by rw [← hh, Bd.state]; rfl
  have N0 := Fr.nil n0
  show own_End p e below s (own_Q2 Z p0 p1 h0 n0) ({ frames := 0, cells := 0, slots := 0, locals := 0 } : Room).cells ({ frames := 0, cells := 0, slots := 0, locals := 0 } : Room).slots (s₁.setTop (entryFrame m #[(.int p0), (.int p1)] 2))
  rw [own_ef_rm2]
  refine own_iloadN X0 hx (hb hby own_d2_0) rfl (q := 1) rfl ?_
  refine own_iloadN X0 hx (hb hby own_d2_1) rfl (q := 2) rfl ?_
  by_cases hc2_4 : p0 < p1
  · refine own_icY X0 hx (hb hby own_d2_2) (tlt hc2_4).1 (q := 9) (by decide) (by decide) ?_
    refine own_iloadN X0 hx (hb hby own_d2_9) rfl (q := 10) rfl ?_
    refine own_retI X0 hx Bd.returns Bd.notSynchronized (by decide) (by decide) (hb hby own_d2_10) ?_
    show own_Q2 Z p0 p1 h0 n0 _ s₁.heap _
    exact ⟨(by simp only [own_F2, if_pos hc2_4]), N0, e0⟩
  · refine own_icN X0 hx (hb hby own_d2_2) (flt hc2_4).1 (q := 5) rfl ?_
    refine own_iloadN X0 hx (hb hby own_d2_5) rfl (q := 6) rfl ?_
    refine own_goto X0 hx (hb hby own_d2_6) (q := 10) (by decide) (by decide) ?_
    refine own_retI X0 hx Bd.returns Bd.notSynchronized (by decide) (by decide) (hb hby own_d2_10) ?_
    show own_Q2 Z p0 p1 h0 n0 _ s₁.heap _
    exact ⟨(by simp only [own_F2, if_neg hc2_4]), N0, e0⟩
theorem own_d7_0 : decode jdk_22_method_1_code 0 = .ok (.aload_n 0, 1) := by decide +kernel
theorem own_d7_1 : decode jdk_22_method_1_code 1 = .ok (.invokespecial 1, 3) := by decide +kernel
theorem own_d7_4 : decode jdk_22_method_1_code 4 = .ok (.return_, 1) := by decide +kernel
def own_Q7 (Z : State) (o0 : Addr) (h0 : Heap) (n0 : Nat) (v : Option Value) (h : Heap) (L : List Loc) : Prop := v = none ∧ Fr n0 L ∧ h = h0
theorem own_pn_rm7 : plainName "java/util/AbstractCollection" = true := by first | (simp [plainName, overriddenIn]; done) | decide +kernel
theorem own_ef_rm7 (m : MethodId) (o0 : Addr) : entryFrame m #[(.ref o0)] 1 = mkF m 0 #[.val (.ref o0)] [] := by first | (simp [entryFrame, mkF, argsToLocals, Value.category]; done) | rfl
set_option maxRecDepth 65536 in
set_option maxHeartbeats 40000000 in
theorem own_rm7 (l : Launch) (Z : State) (a0 : Array Value) (hw : ∀ d ∈ tables_1, d.before a0 Z = true) (ws : List Jvm.Cond) (o0 : Addr) (h0 : Heap) (n0 : Nat) (Z0 : n0 ≤ h0.size) :
    MetFree l (⟨"java/util/AbstractCollection", "<init>", "()V"⟩ : MethodName) (head1 (Jvm.Cond.code (⟨"java/util/AbstractCollection", "<init>", "()V"⟩ : MethodName) jdk_22_method_1_code 1 none :: ws) ({ frames := 1, cells := 0, slots := 0, locals := 12 } : Room)) (fun a U => a = #[(.ref o0)] ∧ Z.Warmed39 U.vm ∧ U.heap = h0) (fun _ _ _ _ _ => True) (fun _ U o U' => ∃ v L, o = .returned v ∧ own_Q7 Z o0 h0 n0 v U'.heap L ∧ FrameEnd U o U' L ({ frames := 1, cells := 0, slots := 0, locals := 12 } : Room).cells ({ frames := 1, cells := 0, slots := 0, locals := 12 } : Room).slots) := by
  refine MetFree.of_bodySF (plainFor_of_name own_pn_rm7) hisR ?_
  intro p e s m args below meth c s₁ Bd hml0 hP hK
  obtain ⟨rfl, hZ, hh⟩ := hP
  have hx := Bd.exec
  have hby := Bd.bytes
  have hml : c.maxLocals = 1 := hml0
  have hown : s.vm.findClass "java/util/AbstractCollection" = some m.cls := findClass_of_methodNamed Bd.named
  have hnm := (name_of_methodNamed Bd.named Bd.method).1
  have X0 : Stand p l e ({ frames := 1, cells := 0, slots := 0, locals := 12 } : Room) s m #[(.ref o0)] below meth c s₁ [] 0 0 := Stand.of_body Bd
  have e0 : s₁.heap = h0 := by rw [← hh, Bd.state]; rfl
  have N0 := Fr.nil n0
  show own_End p e below s (own_Q7 Z o0 h0 n0) ({ frames := 1, cells := 0, slots := 0, locals := 12 } : Room).cells ({ frames := 1, cells := 0, slots := 0, locals := 12 } : Room).slots (s₁.setTop (entryFrame m #[(.ref o0)] 1))
  rw [own_ef_rm7]
  refine own_aloadN X0 hx (hb hby own_d7_0) rfl rfl (q := 1) rfl ?_
  obtain ⟨T7, X7, e7, st7⟩ := initO X0 hx hZ hown (hw _ (List.mem_of_getElem? (i := 52) rfl)) (hw _ (List.mem_of_getElem? (i := 26) rfl)) (hw _ (List.mem_of_getElem? (i := 27) rfl)) e0 (g := (mkF m 1 #[.val (.ref o0)] [(.ref o0)])) rfl (by rw [hml]; rfl) rfl (hb hby own_d7_1) (by decide) (W := 0) (by show 2 * 0 + _ ≤ _; exact Nat.le_of_eq rfl) (by decide)
  refine own_back st7 ?_
  show own_End p e below s _ _ _ (T7.setTop (mkF m 4 #[.val (.ref o0)] []))
  refine own_retV X7 hx Bd.returns Bd.notSynchronized (by decide) (by decide) (hb hby own_d7_4) ?_
  show own_Q7 Z o0 h0 n0 _ T7.heap _
  exact ⟨rfl, N0, e7⟩
theorem own_d6_0 : decode jdk_39_method_1_code 0 = .ok (.aload_n 0, 1) := by decide +kernel
theorem own_d6_1 : decode jdk_39_method_1_code 1 = .ok (.invokespecial 1, 3) := by decide +kernel
theorem own_pd0 : parseMethodDescriptor "()V" = some ⟨[], none⟩ := by decide +kernel
theorem own_d6_4 : decode jdk_39_method_1_code 4 = .ok (.aload_n 0, 1) := by decide +kernel
theorem own_d6_5 : decode jdk_39_method_1_code 5 = .ok (.iconst 0, 1) := by decide +kernel
theorem own_d6_6 : decode jdk_39_method_1_code 6 = .ok (.putfield 7, 3) := by decide +kernel
theorem own_d6_9 : decode jdk_39_method_1_code 9 = .ok (.return_, 1) := by decide +kernel
def own_Q6 (Z : State) (o0 : Addr) (w_o0_modCount : Int32) (w_o0_elementData : Value) (h0 : Heap) (n0 : Nat) (v : Option Value) (h : Heap) (L : List Loc) : Prop := v = none ∧ Fr n0 L ∧ Keep h0 h [o0] ∧ Exa Z h o0 "java/util/ArrayList" ∧ Fld Z h o0 "java/util/AbstractList" "modCount" "I" (.int (0 : Int32)) ∧ Fld Z h o0 "java/util/ArrayList" "elementData" "[Ljava/lang/Object;" w_o0_elementData
theorem own_pn_rm6 : plainName "java/util/AbstractList" = true := by first | (simp [plainName, overriddenIn]; done) | decide +kernel
theorem own_ef_rm6 (m : MethodId) (o0 : Addr) : entryFrame m #[(.ref o0)] 1 = mkF m 0 #[.val (.ref o0)] [] := by first | (simp [entryFrame, mkF, argsToLocals, Value.category]; done) | rfl
set_option maxRecDepth 65536 in
set_option maxHeartbeats 40000000 in
theorem own_rm6 (l : Launch) (Z : State) (a0 : Array Value) (hw : ∀ d ∈ tables_1, d.before a0 Z = true) (ws : List Jvm.Cond) (o0 : Addr) (w_o0_modCount : Int32) (w_o0_elementData : Value) (h0 : Heap) (n0 : Nat) (Z0 : n0 ≤ h0.size) (E_o0 : Exa Z h0 o0 "java/util/ArrayList") (F_o0_modCount : Fld Z h0 o0 "java/util/AbstractList" "modCount" "I" (.int w_o0_modCount)) (F_o0_elementData : Fld Z h0 o0 "java/util/ArrayList" "elementData" "[Ljava/lang/Object;" w_o0_elementData) (g_o0 : n0 ≤ o0) :
    MetFree l (⟨"java/util/AbstractList", "<init>", "()V"⟩ : MethodName) (head1 (Jvm.Cond.code (⟨"java/util/AbstractList", "<init>", "()V"⟩ : MethodName) jdk_39_method_1_code 1 none :: ws) ({ frames := 2, cells := 0, slots := 0, locals := 24 } : Room)) (fun a U => a = #[(.ref o0)] ∧ Z.Warmed39 U.vm ∧ U.heap = h0) (fun _ _ _ _ _ => True) (fun _ U o U' => ∃ v L, o = .returned v ∧ own_Q6 Z o0 w_o0_modCount w_o0_elementData h0 n0 v U'.heap L ∧ FrameEnd U o U' L ({ frames := 2, cells := 0, slots := 0, locals := 24 } : Room).cells ({ frames := 2, cells := 0, slots := 0, locals := 24 } : Room).slots) := by
  refine MetFree.of_bodySF (plainFor_of_name own_pn_rm6) hisR ?_
  intro p e s m args below meth c s₁ Bd hml0 hP hK
  obtain ⟨rfl, hZ, hh⟩ := hP
  have hx := Bd.exec
  have hby := Bd.bytes
  have hml : c.maxLocals = 1 := hml0
  have hown : s.vm.findClass "java/util/AbstractList" = some m.cls := findClass_of_methodNamed Bd.named
  have hnm := (name_of_methodNamed Bd.named Bd.method).1
  have X0 : Stand p l e ({ frames := 2, cells := 0, slots := 0, locals := 24 } : Room) s m #[(.ref o0)] below meth c s₁ [] 0 0 := Stand.of_body Bd
  have e0 : s₁.heap = h0 := by rw [← hh, Bd.state]; rfl
  have N0 := Fr.nil n0
  show own_End p e below s (own_Q6 Z o0 w_o0_modCount w_o0_elementData h0 n0) ({ frames := 2, cells := 0, slots := 0, locals := 24 } : Room).cells ({ frames := 2, cells := 0, slots := 0, locals := 24 } : Room).slots (s₁.setTop (entryFrame m #[(.ref o0)] 1))
  rw [own_ef_rm6]
  refine own_aloadN X0 hx (hb hby own_d6_0) rfl rfl (q := 1) rfl ?_
  obtain ⟨T9, Lc9, L9, X9, N9, hQ9, st9⟩ := own_shutV (val := none) (Q := own_Q7 Z o0 h0 n0) (rc := 0) (rs := 0) N0 (fun _ _ _ q => ⟨q.1, q.2.1⟩) (X0.specialBack hx (y := (⟨"java/util/AbstractCollection", "<init>", "()V"⟩ : MethodName)) rfl hown (mvT hZ (hw _ (List.mem_of_getElem? (i := 46) rfl))) (mvT hZ (hw _ (List.mem_of_getElem? (i := 47) rfl))) (mvT hZ (hw _ (List.mem_of_getElem? (i := 51) rfl))) (by decide) (backOf (W := 0) (own_rm7 l Z a0 hw [] o0 h0 n0 Z0 ) hZ (hw _ (List.mem_of_getElem? (i := 51) rfl)) (hw _ (List.mem_of_getElem? (i := 50) rfl)) (by decide) (by decide)) (g := (mkF m 1 #[.val (.ref o0)] [(.ref o0)])) rfl (by rw [hml]; rfl) (Steps.refl _) (a := o0) (argsL := []) (rest := []) (lenOf own_pd0 rfl) rfl (by show 2 * 0 + _ ≤ _; exact Nat.le_of_eq rfl) (hb hby own_d6_1) (fun _ _ => ⟨rfl, e0, (by decide : 0 + 0 ≤ _), (by decide : 0 + 0 ≤ _)⟩))
  obtain ⟨-, -, e9⟩ := hQ9
  refine own_via st9 ?_
  show own_End p e below s _ _ _ (T9.setTop (mkF m 4 #[.val (.ref o0)] []))
  refine own_aloadN X9 hx (hb hby own_d6_4) rfl rfl (q := 5) rfl ?_
  refine own_iconst X9 hx (hb hby own_d6_5) (z := 0) rfl (q := 6) rfl ?_
  obtain ⟨T10, h10, X10, e10, W10, st10⟩ := putF X9 hx hZ hown (host := "") (Or.inl (hw _ (List.mem_of_getElem? (i := 53) rfl))) Via.refl e9 F_o0_modCount E_o0 (Or.inl (hw _ (List.mem_of_getElem? (i := 54) rfl))) (hw _ (List.mem_of_getElem? (i := 35) rfl)) (ty := .int) (by decide) rfl rfl (g := (mkF m 6 #[.val (.ref o0)] [(.int (0 : Int32)), (.ref o0)])) rfl rfl (hb hby own_d6_6)
  have F_o0_modCount_10 := F_o0_modCount.same W10
  have E_o0_11 := E_o0.wr W10
  have F_o0_elementData_12 := F_o0_elementData.other W10 (Or.inr (slot_ne (Or.inl (hw _ (List.mem_of_getElem? (i := 57) rfl))) (Or.inl (hw _ (List.mem_of_getElem? (i := 54) rfl))) (by decide) (t := (.array (.object "java/lang/Object"))) (t' := .int) (by decide) (by decide)))
  have Kp13 : Keep h0 _ [o0] := (Keep.refl h0 [o0]).wr W10 (Or.inl (List.mem_of_getElem? (i := 0) rfl))
  have Z14 := Nat.le_trans Z0 (Keep.of_wr W10).1
  obtain ⟨L10, X10, N10⟩ := own_gl X10 (Fr.snoc X10 N9 g_o0)
  refine own_back st10 ?_
  show own_End p e below s _ _ _ (T10.setTop (mkF m 9 #[.val (.ref o0)] []))
  refine own_retV X10 hx Bd.returns Bd.notSynchronized (by decide) (by decide) (hb hby own_d6_9) ?_
  show own_Q6 Z o0 w_o0_modCount w_o0_elementData h0 n0 _ T10.heap _
  rw [e10]
  exact ⟨rfl, N10, Kp13, E_o0_11, F_o0_modCount_10, F_o0_elementData_12⟩
theorem own_d5_0 : decode jdk_38_method_2_code 0 = .ok (.aload_n 0, 1) := by decide +kernel
theorem own_d5_1 : decode jdk_38_method_2_code 1 = .ok (.invokespecial 1, 3) := by decide +kernel
theorem own_d5_4 : decode jdk_38_method_2_code 4 = .ok (.aload_n 0, 1) := by decide +kernel
theorem own_d5_5 : decode jdk_38_method_2_code 5 = .ok (.getstatic 39, 3) := by decide +kernel
theorem own_d5_8 : decode jdk_38_method_2_code 8 = .ok (.putfield 9, 3) := by decide +kernel
theorem own_d5_11 : decode jdk_38_method_2_code 11 = .ok (.return_, 1) := by decide +kernel
def own_Q5 (Z : State) (o0 : Addr) (w_o0_modCount : Int32) (w_o0_elementData : Value) (sa : Addr) (h0 : Heap) (n0 : Nat) (v : Option Value) (h : Heap) (L : List Loc) : Prop := v = none ∧ Fr n0 L ∧ Keep h0 h [o0] ∧ Exa Z h o0 "java/util/ArrayList"
theorem own_pn_rm5 : plainName "java/util/ArrayList" = true := by first | (simp [plainName, overriddenIn]; done) | decide +kernel
theorem own_ef_rm5 (m : MethodId) (o0 : Addr) : entryFrame m #[(.ref o0)] 1 = mkF m 0 #[.val (.ref o0)] [] := by first | (simp [entryFrame, mkF, argsToLocals, Value.category]; done) | rfl
set_option maxRecDepth 65536 in
set_option maxHeartbeats 40000000 in
theorem own_rm5 (l : Launch) (Z : State) (a0 : Array Value) (hw : ∀ d ∈ tables_1, d.before a0 Z = true) (ws : List Jvm.Cond) (o0 : Addr) (w_o0_modCount : Int32) (w_o0_elementData : Value) (sa : Addr) (h0 : Heap) (n0 : Nat) (Z0 : n0 ≤ h0.size) (E_o0 : Exa Z h0 o0 "java/util/ArrayList") (F_o0_modCount : Fld Z h0 o0 "java/util/AbstractList" "modCount" "I" (.int w_o0_modCount)) (F_o0_elementData : Fld Z h0 o0 "java/util/ArrayList" "elementData" "[Ljava/lang/Object;" w_o0_elementData) (S_dc : Sta Z h0 "java/util/ArrayList" "DEFAULTCAPACITY_EMPTY_ELEMENTDATA" "[Ljava/lang/Object;" (.ref sa)) (g_o0 : n0 ≤ o0) :
    MetFree l (⟨"java/util/ArrayList", "<init>", "()V"⟩ : MethodName) (head1 (Jvm.Cond.code (⟨"java/util/ArrayList", "<init>", "()V"⟩ : MethodName) jdk_38_method_2_code 1 none :: ws) ({ frames := 3, cells := 0, slots := 0, locals := 36 } : Room)) (fun a U => a = #[(.ref o0)] ∧ Z.Warmed39 U.vm ∧ U.heap = h0) (fun _ _ _ _ _ => True) (fun _ U o U' => ∃ v L, o = .returned v ∧ own_Q5 Z o0 w_o0_modCount w_o0_elementData sa h0 n0 v U'.heap L ∧ FrameEnd U o U' L ({ frames := 3, cells := 0, slots := 0, locals := 36 } : Room).cells ({ frames := 3, cells := 0, slots := 0, locals := 36 } : Room).slots) := by
  refine MetFree.of_bodySF (plainFor_of_name own_pn_rm5) hisR ?_
  intro p e s m args below meth c s₁ Bd hml0 hP hK
  obtain ⟨rfl, hZ, hh⟩ := hP
  have hx := Bd.exec
  have hby := Bd.bytes
  have hml : c.maxLocals = 1 := hml0
  have hown : s.vm.findClass "java/util/ArrayList" = some m.cls := findClass_of_methodNamed Bd.named
  have hnm := (name_of_methodNamed Bd.named Bd.method).1
  have X0 : Stand p l e ({ frames := 3, cells := 0, slots := 0, locals := 36 } : Room) s m #[(.ref o0)] below meth c s₁ [] 0 0 := Stand.of_body Bd
  have e0 : s₁.heap = h0 := by rw [← hh, Bd.state]; rfl
  have N0 := Fr.nil n0
  show own_End p e below s (own_Q5 Z o0 w_o0_modCount w_o0_elementData sa h0 n0) ({ frames := 3, cells := 0, slots := 0, locals := 36 } : Room).cells ({ frames := 3, cells := 0, slots := 0, locals := 36 } : Room).slots (s₁.setTop (entryFrame m #[(.ref o0)] 1))
  rw [own_ef_rm5]
  refine own_aloadN X0 hx (hb hby own_d5_0) rfl rfl (q := 1) rfl ?_
  obtain ⟨T16, Lc16, L16, X16, N16, hQ16, st16⟩ := own_shutV (val := none) (Q := own_Q6 Z o0 w_o0_modCount w_o0_elementData h0 n0) (rc := 0) (rs := 0) N0 (fun _ _ _ q => ⟨q.1, q.2.1⟩) (X0.specialBack hx (y := (⟨"java/util/AbstractList", "<init>", "()V"⟩ : MethodName)) rfl hown (mvT hZ (hw _ (List.mem_of_getElem? (i := 40) rfl))) (mvT hZ (hw _ (List.mem_of_getElem? (i := 41) rfl))) (mvT hZ (hw _ (List.mem_of_getElem? (i := 45) rfl))) (by decide) (backOf (W := 0) (own_rm6 l Z a0 hw [] o0 w_o0_modCount w_o0_elementData h0 n0 Z0 E_o0 F_o0_modCount F_o0_elementData g_o0) hZ (hw _ (List.mem_of_getElem? (i := 45) rfl)) (hw _ (List.mem_of_getElem? (i := 44) rfl)) (by decide) (by decide)) (g := (mkF m 1 #[.val (.ref o0)] [(.ref o0)])) rfl (by rw [hml]; rfl) (Steps.refl _) (a := o0) (argsL := []) (rest := []) (lenOf own_pd0 rfl) rfl (by show 2 * 0 + _ ≤ _; exact Nat.le_of_eq rfl) (hb hby own_d5_1) (fun _ _ => ⟨rfl, e0, (by decide : 0 + 0 ≤ _), (by decide : 0 + 0 ≤ _)⟩))
  obtain ⟨-, -, K16, Q16_0, Q16_1, Q16_2⟩ := hQ16
  have S_dc_17 := own_StaK S_dc K16 (allS (P := fun o => ∃ C, Exa Z _ o C) ⟨_, E_o0⟩ all0)
  have E_o0_18 := E_o0.keep K16
  have Kp19 : Keep h0 _ [o0] := (Keep.refl h0 [o0]).trans K16 (allS (Or.inl (List.mem_of_getElem? (i := 0) rfl)) all0)
  have Z20 := Nat.le_trans Z0 K16.1
  refine own_via st16 ?_
  show own_End p e below s _ _ _ (T16.setTop (mkF m 4 #[.val (.ref o0)] []))
  refine own_aloadN X16 hx (hb hby own_d5_4) rfl rfl (q := 5) rfl ?_
  obtain ⟨T21, X21, e21, st21⟩ := getS2 X16 hx hZ hown (host := "") (Or.inl (hw _ (List.mem_of_getElem? (i := 55) rfl))) Via.refl rfl S_dc_17 (g := (mkF m 5 #[.val (.ref o0)] [(.ref o0)])) rfl (hb hby own_d5_5)
  refine own_back st21 ?_
  show own_End p e below s _ _ _ (T21.setTop (mkF m 8 #[.val (.ref o0)] [(.ref sa), (.ref o0)]))
  obtain ⟨T22, h22, X22, e22, W22, st22⟩ := putF X21 hx hZ hown (host := "") (Or.inl (hw _ (List.mem_of_getElem? (i := 56) rfl))) Via.refl e21 Q16_2 Q16_0 (Or.inl (hw _ (List.mem_of_getElem? (i := 57) rfl))) (hw _ (List.mem_of_getElem? (i := 35) rfl)) (ty := (.array (.object "java/lang/Object"))) (by decide) rfl rfl (g := (mkF m 8 #[.val (.ref o0)] [(.ref sa), (.ref o0)])) rfl rfl (hb hby own_d5_8)
  have Q16_22 := Q16_2.same W22
  have S_dc_23 := S_dc_17.wr W22
  have Q16_24 := Q16_0.wr W22
  have Q16_25 := Q16_1.other W22 (Or.inr (slot_ne (Or.inl (hw _ (List.mem_of_getElem? (i := 54) rfl))) (Or.inl (hw _ (List.mem_of_getElem? (i := 57) rfl))) (by decide) (t := .int) (t' := (.array (.object "java/lang/Object"))) (by decide) (by decide)))
  have Kp26 : Keep h0 _ [o0] := Kp19.wr W22 (Or.inl (List.mem_of_getElem? (i := 0) rfl))
  have Z27 := Nat.le_trans Z20 (Keep.of_wr W22).1
  obtain ⟨L22, X22, N22⟩ := own_gl X22 (Fr.snoc X22 N16 g_o0)
  refine own_back st22 ?_
  show own_End p e below s _ _ _ (T22.setTop (mkF m 11 #[.val (.ref o0)] []))
  refine own_retV X22 hx Bd.returns Bd.notSynchronized (by decide) (by decide) (hb hby own_d5_11) ?_
  show own_Q5 Z o0 w_o0_modCount w_o0_elementData sa h0 n0 _ T22.heap _
  rw [e22]
  exact ⟨rfl, N22, Kp26, Q16_24⟩
theorem own_d3_0 : decode prog_61_method_1_code 0 = .ok (.aload_n 0, 1) := by decide +kernel
theorem own_d3_1 : decode prog_61_method_1_code 1 = .ok (.invokespecial 1, 3) := by decide +kernel
theorem own_d3_4 : decode prog_61_method_1_code 4 = .ok (.aload_n 0, 1) := by decide +kernel
theorem own_d3_5 : decode prog_61_method_1_code 5 = .ok (.sipush 256, 3) := by decide +kernel
theorem own_d3_8 : decode prog_61_method_1_code 8 = .ok (.anewarray 7, 3) := by decide +kernel
theorem own_d3_11 : decode prog_61_method_1_code 11 = .ok (.putfield 9, 3) := by decide +kernel
theorem own_d3_14 : decode prog_61_method_1_code 14 = .ok (.aload_n 0, 1) := by decide +kernel
theorem own_d3_15 : decode prog_61_method_1_code 15 = .ok (.sipush 256, 3) := by decide +kernel
theorem own_d3_18 : decode prog_61_method_1_code 18 = .ok (.newarray .int, 2) := by decide +kernel
theorem own_d3_20 : decode prog_61_method_1_code 20 = .ok (.putfield 15, 3) := by decide +kernel
theorem own_d3_23 : decode prog_61_method_1_code 23 = .ok (.return_, 1) := by decide +kernel
def own_Q3 (Z : State) (o0 : Addr) (w_o0_domains : Value) (w_o0_indexes : Value) (h0 : Heap) (n0 : Nat) (v : Option Value) (h : Heap) (L : List Loc) : Prop := v = none ∧ Fr n0 L ∧ Keep h0 h [o0] ∧ Exa Z h o0 "com/example/arcwise/arcwise/network/Trail"
theorem own_pn_rm3 : plainName "com/example/arcwise/arcwise/network/Trail" = true := by first | (simp [plainName, overriddenIn]; done) | decide +kernel
theorem own_ef_rm3 (m : MethodId) (o0 : Addr) : entryFrame m #[(.ref o0)] 1 = mkF m 0 #[.val (.ref o0)] [] := by first | (simp [entryFrame, mkF, argsToLocals, Value.category]; done) | rfl
set_option maxRecDepth 65536 in
set_option maxHeartbeats 40000000 in
theorem own_rm3 (l : Launch) (Z : State) (a0 : Array Value) (hw : ∀ d ∈ tables_1, d.before a0 Z = true) (ws : List Jvm.Cond) (o0 : Addr) (w_o0_domains : Value) (w_o0_indexes : Value) (h0 : Heap) (n0 : Nat) (Z0 : n0 ≤ h0.size) (E_o0 : Exa Z h0 o0 "com/example/arcwise/arcwise/network/Trail") (F_o0_domains : Fld Z h0 o0 "com/example/arcwise/arcwise/network/Trail" "domains" "[Lcom/example/arcwise/arcwise/network/Domain;" w_o0_domains) (F_o0_indexes : Fld Z h0 o0 "com/example/arcwise/arcwise/network/Trail" "indexes" "[I" w_o0_indexes) (g_o0 : n0 ≤ o0) :
    MetFree l (⟨"com/example/arcwise/arcwise/network/Trail", "<init>", "()V"⟩ : MethodName) (head1 (Jvm.Cond.code (⟨"com/example/arcwise/arcwise/network/Trail", "<init>", "()V"⟩ : MethodName) prog_61_method_1_code 1 none :: ws) ({ frames := 1, cells := 2, slots := 512, locals := 12 } : Room)) (fun a U => a = #[(.ref o0)] ∧ Z.Warmed39 U.vm ∧ U.heap = h0) (fun _ _ _ _ _ => True) (fun _ U o U' => ∃ v L, o = .returned v ∧ own_Q3 Z o0 w_o0_domains w_o0_indexes h0 n0 v U'.heap L ∧ FrameEnd U o U' L ({ frames := 1, cells := 2, slots := 512, locals := 12 } : Room).cells ({ frames := 1, cells := 2, slots := 512, locals := 12 } : Room).slots) := by
  refine MetFree.of_bodySF (plainFor_of_name own_pn_rm3) hisR ?_
  intro p e s m args below meth c s₁ Bd hml0 hP hK
  obtain ⟨rfl, hZ, hh⟩ := hP
  have hx := Bd.exec
  have hby := Bd.bytes
  have hml : c.maxLocals = 1 := hml0
  have hown : s.vm.findClass "com/example/arcwise/arcwise/network/Trail" = some m.cls := findClass_of_methodNamed Bd.named
  have hnm := (name_of_methodNamed Bd.named Bd.method).1
  have X0 : Stand p l e ({ frames := 1, cells := 2, slots := 512, locals := 12 } : Room) s m #[(.ref o0)] below meth c s₁ [] 0 0 := Stand.of_body Bd
  have e0 : s₁.heap = h0 := by rw [← hh, Bd.state]; rfl
  have N0 := Fr.nil n0
  show own_End p e below s (own_Q3 Z o0 w_o0_domains w_o0_indexes h0 n0) ({ frames := 1, cells := 2, slots := 512, locals := 12 } : Room).cells ({ frames := 1, cells := 2, slots := 512, locals := 12 } : Room).slots (s₁.setTop (entryFrame m #[(.ref o0)] 1))
  rw [own_ef_rm3]
  refine own_aloadN X0 hx (hb hby own_d3_0) rfl rfl (q := 1) rfl ?_
  obtain ⟨T29, X29, e29, st29⟩ := initO X0 hx hZ hown (hw _ (List.mem_of_getElem? (i := 25) rfl)) (hw _ (List.mem_of_getElem? (i := 26) rfl)) (hw _ (List.mem_of_getElem? (i := 27) rfl)) e0 (g := (mkF m 1 #[.val (.ref o0)] [(.ref o0)])) rfl (by rw [hml]; rfl) rfl (hb hby own_d3_1) (by decide) (W := 0) (by show 2 * 0 + _ ≤ _; exact Nat.le_of_eq rfl) (by decide)
  refine own_back st29 ?_
  show own_End p e below s _ _ _ (T29.setTop (mkF m 4 #[.val (.ref o0)] []))
  refine own_aloadN X29 hx (hb hby own_d3_4) rfl rfl (q := 5) rfl ?_
  refine own_sipush X29 hx (hb hby own_d3_5) (z := 256) rfl (q := 8) rfl ?_
  obtain ⟨T30, h30, k30, X30, e30, E30, A30, O30, st30⟩ := newR X29 hx hZ hown (hw _ (List.mem_of_getElem? (i := 28) rfl)) (hw _ (List.mem_of_getElem? (i := 29) rfl)) e29 (g := (mkF m 8 #[.val (.ref o0)] [(.int (256 : Int32)), (.ref o0)])) rfl (hb hby own_d3_8) rfl (by decide) (cap := 256) (by decide) (by decide) (by decide) (by decide)
  obtain ⟨b30, g30⟩ : ∃ z, z = h0.size := ⟨_, rfl⟩
  have ne_o0_b30 : o0 ≠ b30 := Nat.ne_of_lt (Nat.lt_of_lt_of_le E_o0.lt (Nat.le_of_eq g30.symm))
  have g_b30 : n0 ≤ b30 := Nat.le_trans Z0 (Nat.le_of_eq g30.symm)
  have sz_b30 : h0.size ≤ b30 := Nat.le_trans (Keep.refl h0 [o0]).1 (Nat.le_of_eq g30.symm)
  have Z31 := Nat.le_trans Z0 E30.1
  rw [← g30] at A30 st30
  have E_o0_32 := E_o0.ext E30
  have F_o0_domains_33 := F_o0_domains.ext E30
  have F_o0_indexes_34 := F_o0_indexes.ext E30
  have Kp35 : Keep h0 _ [o0] := (Keep.refl h0 [o0]).ext E30
  refine own_back st30 ?_
  show own_End p e below s _ _ _ (T30.setTop (mkF m 11 #[.val (.ref o0)] [(.ref b30), (.ref o0)]))
  obtain ⟨T36, h36, X36, e36, W36, st36⟩ := putF X30 hx hZ hown (host := "") (Or.inl (hw _ (List.mem_of_getElem? (i := 30) rfl))) Via.refl e30 F_o0_domains_33 E_o0_32 (Or.inl (hw _ (List.mem_of_getElem? (i := 31) rfl))) (hw _ (List.mem_of_getElem? (i := 20) rfl)) (ty := (.array (.object "com/example/arcwise/arcwise/network/Domain"))) (by decide) rfl rfl (g := (mkF m 11 #[.val (.ref o0)] [(.ref b30), (.ref o0)])) rfl rfl (hb hby own_d3_11)
  have F_o0_domains_36 := F_o0_domains_33.same W36
  have E_o0_37 := E_o0_32.wr W36
  have F_o0_indexes_38 := F_o0_indexes_34.other W36 (Or.inr (slot_ne (Or.inl (hw _ (List.mem_of_getElem? (i := 33) rfl))) (Or.inl (hw _ (List.mem_of_getElem? (i := 31) rfl))) (by decide) (t := (.array .int)) (t' := (.array (.object "com/example/arcwise/arcwise/network/Domain"))) (by decide) (by decide)))
  have Kp39 : Keep h0 _ [o0] := Kp35.wr W36 (Or.inl (List.mem_of_getElem? (i := 0) rfl))
  have Z40 := Nat.le_trans Z31 (Keep.of_wr W36).1
  obtain ⟨L36, X36, N36⟩ := own_gl X36 (Fr.snoc X36 N0 g_o0)
  refine own_back st36 ?_
  show own_End p e below s _ _ _ (T36.setTop (mkF m 14 #[.val (.ref o0)] []))
  refine own_aloadN X36 hx (hb hby own_d3_14) rfl rfl (q := 15) rfl ?_
  refine own_sipush X36 hx (hb hby own_d3_15) (z := 256) rfl (q := 18) rfl ?_
  obtain ⟨T41, h41, k41, X41, e41, E41, A41, st41⟩ := newP X36 hx hZ (hw _ (List.mem_of_getElem? (i := 7) rfl)) e36 (g := (mkF m 18 #[.val (.ref o0)] [(.int (256 : Int32)), (.ref o0)])) rfl (hb hby own_d3_18) rfl (by decide) (cap := 256) (by decide) (by decide) (by decide) (by decide)
  obtain ⟨b41, g41⟩ : ∃ z, z = h36.size := ⟨_, rfl⟩
  have ne_o0_b41 : o0 ≠ b41 := Nat.ne_of_lt (Nat.lt_of_lt_of_le E_o0_37.lt (Nat.le_of_eq g41.symm))
  have g_b41 : n0 ≤ b41 := Nat.le_trans Z40 (Nat.le_of_eq g41.symm)
  have sz_b41 : h0.size ≤ b41 := Nat.le_trans Kp39.1 (Nat.le_of_eq g41.symm)
  have Z42 := Nat.le_trans Z40 E41.1
  rw [← g41] at A41 st41
  have E_o0_43 := E_o0_37.ext E41
  have F_o0_domains_44 := F_o0_domains_36.ext E41
  have F_o0_indexes_45 := F_o0_indexes_38.ext E41
  have Kp46 : Keep h0 _ [o0] := Kp39.ext E41
  refine own_back st41 ?_
  show own_End p e below s _ _ _ (T41.setTop (mkF m 20 #[.val (.ref o0)] [(.ref b41), (.ref o0)]))
  obtain ⟨T47, h47, X47, e47, W47, st47⟩ := putF X41 hx hZ hown (host := "") (Or.inl (hw _ (List.mem_of_getElem? (i := 32) rfl))) Via.refl e41 F_o0_indexes_45 E_o0_43 (Or.inl (hw _ (List.mem_of_getElem? (i := 33) rfl))) (hw _ (List.mem_of_getElem? (i := 20) rfl)) (ty := (.array .int)) (by decide) rfl rfl (g := (mkF m 20 #[.val (.ref o0)] [(.ref b41), (.ref o0)])) rfl rfl (hb hby own_d3_20)
  have F_o0_indexes_47 := F_o0_indexes_45.same W47
  have E_o0_48 := E_o0_43.wr W47
  have F_o0_domains_49 := F_o0_domains_44.other W47 (Or.inr (slot_ne (Or.inl (hw _ (List.mem_of_getElem? (i := 31) rfl))) (Or.inl (hw _ (List.mem_of_getElem? (i := 33) rfl))) (by decide) (t := (.array (.object "com/example/arcwise/arcwise/network/Domain"))) (t' := (.array .int)) (by decide) (by decide)))
  have Kp50 : Keep h0 _ [o0] := Kp46.wr W47 (Or.inl (List.mem_of_getElem? (i := 0) rfl))
  have Z51 := Nat.le_trans Z42 (Keep.of_wr W47).1
  obtain ⟨L47, X47, N47⟩ := own_gl X47 (Fr.snoc X47 N36 g_o0)
  refine own_back st47 ?_
  show own_End p e below s _ _ _ (T47.setTop (mkF m 23 #[.val (.ref o0)] []))
  refine own_retV X47 hx Bd.returns Bd.notSynchronized (by decide) (by decide) (hb hby own_d3_23) ?_
  show own_Q3 Z o0 w_o0_domains w_o0_indexes h0 n0 _ T47.heap _
  rw [e47]
  exact ⟨rfl, N47, Kp50, E_o0_48⟩
theorem own_d9_0 : decode prog_59_method_1_code 0 = .ok (.aload_n 0, 1) := by decide +kernel
theorem own_d9_1 : decode prog_59_method_1_code 1 = .ok (.invokespecial 1, 3) := by decide +kernel
theorem own_d9_4 : decode prog_59_method_1_code 4 = .ok (.aload_n 0, 1) := by decide +kernel
theorem own_d9_5 : decode prog_59_method_1_code 5 = .ok (.aload_n 2, 1) := by decide +kernel
theorem own_d9_6 : decode prog_59_method_1_code 6 = .ok (.putfield 7, 3) := by decide +kernel
theorem own_d9_9 : decode prog_59_method_1_code 9 = .ok (.aload_n 0, 1) := by decide +kernel
theorem own_d9_10 : decode prog_59_method_1_code 10 = .ok (.iload_n 1, 1) := by decide +kernel
theorem own_d9_11 : decode prog_59_method_1_code 11 = .ok (.bipush 63, 2) := by decide +kernel
theorem own_d9_13 : decode prog_59_method_1_code 13 = .ok (.iadd, 1) := by decide +kernel
theorem own_d9_14 : decode prog_59_method_1_code 14 = .ok (.bipush 6, 2) := by decide +kernel
theorem own_d9_16 : decode prog_59_method_1_code 16 = .ok (.iushr, 1) := by decide +kernel
theorem own_d9_17 : decode prog_59_method_1_code 17 = .ok (.newarray .long, 2) := by decide +kernel
theorem own_d9_19 : decode prog_59_method_1_code 19 = .ok (.putfield 13, 3) := by decide +kernel
theorem own_d9_22 : decode prog_59_method_1_code 22 = .ok (.aload_n 0, 1) := by decide +kernel
theorem own_d9_23 : decode prog_59_method_1_code 23 = .ok (.iload_n 1, 1) := by decide +kernel
theorem own_d9_24 : decode prog_59_method_1_code 24 = .ok (.putfield 17, 3) := by decide +kernel
theorem own_d9_27 : decode prog_59_method_1_code 27 = .ok (.aload_n 0, 1) := by decide +kernel
theorem own_d9_28 : decode prog_59_method_1_code 28 = .ok (.iload_n 1, 1) := by decide +kernel
theorem own_d9_29 : decode prog_59_method_1_code 29 = .ok (.putfield 21, 3) := by decide +kernel
theorem own_d9_32 : decode prog_59_method_1_code 32 = .ok (.iconst 0, 1) := by decide +kernel
theorem own_d9_33 : decode prog_59_method_1_code 33 = .ok (.istore_n 3, 1) := by decide +kernel
theorem own_d9_34 : decode prog_59_method_1_code 34 = .ok (.iload_n 3, 1) := by decide +kernel
theorem own_d9_35 : decode prog_59_method_1_code 35 = .ok (.iload_n 1, 1) := by decide +kernel
theorem own_d9_36 : decode prog_59_method_1_code 36 = .ok (.if_icmp .ge 24, 3) := by decide +kernel
theorem own_d9_60 : decode prog_59_method_1_code 60 = .ok (.return_, 1) := by decide +kernel
def own_Q9_0 (Z : State) (o0 : Addr) (o2 : Addr) (w_o0_trail : Value) (w_o0_words : Value) (w_o0_initialSize : Int32) (w_o0_size : Int32) (h0 : Heap) (n0 : Nat) (v : Option Value) (h : Heap) (L : List Loc) : Prop := v = none ∧ Fr n0 L ∧ Keep h0 h [o0] ∧ Exa Z h o0 "com/example/arcwise/arcwise/network/Domain"
theorem own_pn_rm9_0 : plainName "com/example/arcwise/arcwise/network/Domain" = true := by first | (simp [plainName, overriddenIn]; done) | decide +kernel
theorem own_ef_rm9_0 (m : MethodId) (o0 : Addr) (o2 : Addr) : entryFrame m #[(.ref o0), (.int (0 : Int32)), (.ref o2)] 4 = mkF m 0 #[.val (.ref o0), .val (.int (0 : Int32)), .val (.ref o2), .unset] [] := by first | (simp [entryFrame, mkF, argsToLocals, Value.category]; done) | rfl
set_option maxRecDepth 65536 in
set_option maxHeartbeats 40000000 in
theorem own_rm9_0 (l : Launch) (Z : State) (a0 : Array Value) (hw : ∀ d ∈ tables_1, d.before a0 Z = true) (ws : List Jvm.Cond) (o0 : Addr) (o2 : Addr) (w_o0_trail : Value) (w_o0_words : Value) (w_o0_initialSize : Int32) (w_o0_size : Int32) (h0 : Heap) (n0 : Nat) (Z0 : n0 ≤ h0.size) (E_o0 : Exa Z h0 o0 "com/example/arcwise/arcwise/network/Domain") (F_o0_trail : Fld Z h0 o0 "com/example/arcwise/arcwise/network/Domain" "trail" "Lcom/example/arcwise/arcwise/network/Trail;" w_o0_trail) (F_o0_words : Fld Z h0 o0 "com/example/arcwise/arcwise/network/Domain" "words" "[J" w_o0_words) (F_o0_initialSize : Fld Z h0 o0 "com/example/arcwise/arcwise/network/Domain" "initialSize" "I" (.int w_o0_initialSize)) (F_o0_size : Fld Z h0 o0 "com/example/arcwise/arcwise/network/Domain" "size" "I" (.int w_o0_size)) (g_o0 : n0 ≤ o0) :
    MetFree l (⟨"com/example/arcwise/arcwise/network/Domain", "<init>", "(ILcom/example/arcwise/arcwise/network/Trail;)V"⟩ : MethodName) (head1 (Jvm.Cond.code (⟨"com/example/arcwise/arcwise/network/Domain", "<init>", "(ILcom/example/arcwise/arcwise/network/Trail;)V"⟩ : MethodName) prog_59_method_1_code 4 none :: ws) ({ frames := 1, cells := 1, slots := 0, locals := 12 } : Room)) (fun a U => a = #[(.ref o0), (.int (0 : Int32)), (.ref o2)] ∧ Z.Warmed39 U.vm ∧ U.heap = h0) (fun _ _ _ _ _ => True) (fun _ U o U' => ∃ v L, o = .returned v ∧ own_Q9_0 Z o0 o2 w_o0_trail w_o0_words w_o0_initialSize w_o0_size h0 n0 v U'.heap L ∧ FrameEnd U o U' L ({ frames := 1, cells := 1, slots := 0, locals := 12 } : Room).cells ({ frames := 1, cells := 1, slots := 0, locals := 12 } : Room).slots) := by
  refine MetFree.of_bodySF (plainFor_of_name own_pn_rm9_0) hisR ?_
  intro p e s m args below meth c s₁ Bd hml0 hP hK
  obtain ⟨rfl, hZ, hh⟩ := hP
  have hx := Bd.exec
  have hby := Bd.bytes
  have hml : c.maxLocals = 4 := hml0
  have hown : s.vm.findClass "com/example/arcwise/arcwise/network/Domain" = some m.cls := findClass_of_methodNamed Bd.named
  have hnm := (name_of_methodNamed Bd.named Bd.method).1
  have X0 : Stand p l e ({ frames := 1, cells := 1, slots := 0, locals := 12 } : Room) s m #[(.ref o0), (.int (0 : Int32)), (.ref o2)] below meth c s₁ [] 0 0 := Stand.of_body Bd
  have e0 : s₁.heap = h0 := by rw [← hh, Bd.state]; rfl
  have N0 := Fr.nil n0
  show own_End p e below s (own_Q9_0 Z o0 o2 w_o0_trail w_o0_words w_o0_initialSize w_o0_size h0 n0) ({ frames := 1, cells := 1, slots := 0, locals := 12 } : Room).cells ({ frames := 1, cells := 1, slots := 0, locals := 12 } : Room).slots (s₁.setTop (entryFrame m #[(.ref o0), (.int (0 : Int32)), (.ref o2)] 4))
  rw [own_ef_rm9_0]
  refine own_aloadN X0 hx (hb hby own_d9_0) rfl rfl (q := 1) rfl ?_
  obtain ⟨T53, X53, e53, st53⟩ := initO X0 hx hZ hown (hw _ (List.mem_of_getElem? (i := 87) rfl)) (hw _ (List.mem_of_getElem? (i := 26) rfl)) (hw _ (List.mem_of_getElem? (i := 27) rfl)) e0 (g := (mkF m 1 #[.val (.ref o0), .val (.int (0 : Int32)), .val (.ref o2), .unset] [(.ref o0)])) rfl (by rw [hml]; rfl) rfl (hb hby own_d9_1) (by decide) (W := 0) (by show 2 * 0 + _ ≤ _; exact Nat.le_of_eq rfl) (by decide)
  refine own_back st53 ?_
  show own_End p e below s _ _ _ (T53.setTop (mkF m 4 #[.val (.ref o0), .val (.int (0 : Int32)), .val (.ref o2), .unset] []))
  refine own_aloadN X53 hx (hb hby own_d9_4) rfl rfl (q := 5) rfl ?_
  refine own_aloadN X53 hx (hb hby own_d9_5) rfl rfl (q := 6) rfl ?_
  obtain ⟨T54, h54, X54, e54, W54, st54⟩ := putF X53 hx hZ hown (host := "") (Or.inl (hw _ (List.mem_of_getElem? (i := 88) rfl))) Via.refl e53 F_o0_trail E_o0 (Or.inr ⟨(hw _ (List.mem_of_getElem? (i := 89) rfl)), rfl, hnm⟩) (hw _ (List.mem_of_getElem? (i := 82) rfl)) (ty := (.object "com/example/arcwise/arcwise/network/Trail")) (by decide) rfl rfl (g := (mkF m 6 #[.val (.ref o0), .val (.int (0 : Int32)), .val (.ref o2), .unset] [(.ref o2), (.ref o0)])) rfl rfl (hb hby own_d9_6)
  have F_o0_trail_54 := F_o0_trail.same W54
  have E_o0_55 := E_o0.wr W54
  have F_o0_words_56 := F_o0_words.other W54 (Or.inr (slot_ne (Or.inr (hw _ (List.mem_of_getElem? (i := 92) rfl))) (Or.inr (hw _ (List.mem_of_getElem? (i := 89) rfl))) (by decide) (t := (.array .long)) (t' := (.object "com/example/arcwise/arcwise/network/Trail")) (by decide) (by decide)))
  have F_o0_initialSize_57 := F_o0_initialSize.other W54 (Or.inr (slot_ne (Or.inr (hw _ (List.mem_of_getElem? (i := 94) rfl))) (Or.inr (hw _ (List.mem_of_getElem? (i := 89) rfl))) (by decide) (t := .int) (t' := (.object "com/example/arcwise/arcwise/network/Trail")) (by decide) (by decide)))
  have F_o0_size_58 := F_o0_size.other W54 (Or.inr (slot_ne (Or.inl (hw _ (List.mem_of_getElem? (i := 96) rfl))) (Or.inr (hw _ (List.mem_of_getElem? (i := 89) rfl))) (by decide) (t := .int) (t' := (.object "com/example/arcwise/arcwise/network/Trail")) (by decide) (by decide)))
  have Kp59 : Keep h0 _ [o0] := (Keep.refl h0 [o0]).wr W54 (Or.inl (List.mem_of_getElem? (i := 0) rfl))
  have Z60 := Nat.le_trans Z0 (Keep.of_wr W54).1
  obtain ⟨L54, X54, N54⟩ := own_gl X54 (Fr.snoc X54 N0 g_o0)
  refine own_back st54 ?_
  show own_End p e below s _ _ _ (T54.setTop (mkF m 9 #[.val (.ref o0), .val (.int (0 : Int32)), .val (.ref o2), .unset] []))
  refine own_aloadN X54 hx (hb hby own_d9_9) rfl rfl (q := 10) rfl ?_
  refine own_iloadN X54 hx (hb hby own_d9_10) rfl (q := 11) rfl ?_
  refine own_bipush X54 hx (hb hby own_d9_11) (z := 63) rfl (q := 13) rfl ?_
  refine own_iadd X54 hx (hb hby own_d9_13) (q := 14) rfl ?_
  show own_End p e below s _ _ _ (T54.setTop (mkF m 14 #[.val (.ref o0), .val (.int (0 : Int32)), .val (.ref o2), .unset] [(.int (63 : Int32)), (.ref o0)]))
  refine own_bipush X54 hx (hb hby own_d9_14) (z := 6) rfl (q := 16) rfl ?_
  refine own_iushr X54 hx (hb hby own_d9_16) (q := 17) rfl ?_
  show own_End p e below s _ _ _ (T54.setTop (mkF m 17 #[.val (.ref o0), .val (.int (0 : Int32)), .val (.ref o2), .unset] [(.int (0 : Int32)), (.ref o0)]))
  obtain ⟨T61, h61, k61, X61, e61, E61, A61, st61⟩ := newP X54 hx hZ (hw _ (List.mem_of_getElem? (i := 90) rfl)) e54 (g := (mkF m 17 #[.val (.ref o0), .val (.int (0 : Int32)), .val (.ref o2), .unset] [(.int (0 : Int32)), (.ref o0)])) rfl (hb hby own_d9_17) rfl (by decide) (cap := 0) (by decide) (by decide) (by decide) (by decide)
  obtain ⟨b61, g61⟩ : ∃ z, z = h54.size := ⟨_, rfl⟩
  have ne_o0_b61 : o0 ≠ b61 := Nat.ne_of_lt (Nat.lt_of_lt_of_le E_o0_55.lt (Nat.le_of_eq g61.symm))
  have g_b61 : n0 ≤ b61 := Nat.le_trans Z60 (Nat.le_of_eq g61.symm)
  have sz_b61 : h0.size ≤ b61 := Nat.le_trans Kp59.1 (Nat.le_of_eq g61.symm)
  have Z62 := Nat.le_trans Z60 E61.1
  rw [← g61] at A61 st61
  have E_o0_63 := E_o0_55.ext E61
  have F_o0_trail_64 := F_o0_trail_54.ext E61
  have F_o0_words_65 := F_o0_words_56.ext E61
  have F_o0_initialSize_66 := F_o0_initialSize_57.ext E61
  have F_o0_size_67 := F_o0_size_58.ext E61
  have Kp68 : Keep h0 _ [o0] := Kp59.ext E61
  have V_b61 : Arv Z h61 b61 k61 .long (0 : Int32) [] (.long (0 : Int64)) := Arv.new A61 (by decide)
  refine own_back st61 ?_
  show own_End p e below s _ _ _ (T61.setTop (mkF m 19 #[.val (.ref o0), .val (.int (0 : Int32)), .val (.ref o2), .unset] [(.ref b61), (.ref o0)]))
  obtain ⟨T69, h69, X69, e69, W69, st69⟩ := putF X61 hx hZ hown (host := "") (Or.inl (hw _ (List.mem_of_getElem? (i := 91) rfl))) Via.refl e61 F_o0_words_65 E_o0_63 (Or.inr ⟨(hw _ (List.mem_of_getElem? (i := 92) rfl)), rfl, hnm⟩) (hw _ (List.mem_of_getElem? (i := 82) rfl)) (ty := (.array .long)) (by decide) rfl rfl (g := (mkF m 19 #[.val (.ref o0), .val (.int (0 : Int32)), .val (.ref o2), .unset] [(.ref b61), (.ref o0)])) rfl rfl (hb hby own_d9_19)
  have F_o0_words_69 := F_o0_words_65.same W69
  have E_o0_70 := E_o0_63.wr W69
  have F_o0_trail_71 := F_o0_trail_64.other W69 (Or.inr (slot_ne (Or.inr (hw _ (List.mem_of_getElem? (i := 89) rfl))) (Or.inr (hw _ (List.mem_of_getElem? (i := 92) rfl))) (by decide) (t := (.object "com/example/arcwise/arcwise/network/Trail")) (t' := (.array .long)) (by decide) (by decide)))
  have F_o0_initialSize_72 := F_o0_initialSize_66.other W69 (Or.inr (slot_ne (Or.inr (hw _ (List.mem_of_getElem? (i := 94) rfl))) (Or.inr (hw _ (List.mem_of_getElem? (i := 92) rfl))) (by decide) (t := .int) (t' := (.array .long)) (by decide) (by decide)))
  have F_o0_size_73 := F_o0_size_67.other W69 (Or.inr (slot_ne (Or.inl (hw _ (List.mem_of_getElem? (i := 96) rfl))) (Or.inr (hw _ (List.mem_of_getElem? (i := 92) rfl))) (by decide) (t := .int) (t' := (.array .long)) (by decide) (by decide)))
  have V_b61_74 := V_b61.other W69 (Ne.symm ne_o0_b61)
  have Kp75 : Keep h0 _ [o0] := Kp68.wr W69 (Or.inl (List.mem_of_getElem? (i := 0) rfl))
  have Z76 := Nat.le_trans Z62 (Keep.of_wr W69).1
  obtain ⟨L69, X69, N69⟩ := own_gl X69 (Fr.snoc X69 N54 g_o0)
  refine own_back st69 ?_
  show own_End p e below s _ _ _ (T69.setTop (mkF m 22 #[.val (.ref o0), .val (.int (0 : Int32)), .val (.ref o2), .unset] []))
  refine own_aloadN X69 hx (hb hby own_d9_22) rfl rfl (q := 23) rfl ?_
  refine own_iloadN X69 hx (hb hby own_d9_23) rfl (q := 24) rfl ?_
  obtain ⟨T77, h77, X77, e77, W77, st77⟩ := putF X69 hx hZ hown (host := "") (Or.inl (hw _ (List.mem_of_getElem? (i := 93) rfl))) Via.refl e69 F_o0_initialSize_72 E_o0_70 (Or.inr ⟨(hw _ (List.mem_of_getElem? (i := 94) rfl)), rfl, hnm⟩) (hw _ (List.mem_of_getElem? (i := 82) rfl)) (ty := .int) (by decide) rfl rfl (g := (mkF m 24 #[.val (.ref o0), .val (.int (0 : Int32)), .val (.ref o2), .unset] [(.int (0 : Int32)), (.ref o0)])) rfl rfl (hb hby own_d9_24)
  have F_o0_initialSize_77 := F_o0_initialSize_72.same W77
  have E_o0_78 := E_o0_70.wr W77
  have F_o0_trail_79 := F_o0_trail_71.other W77 (Or.inr (slot_ne (Or.inr (hw _ (List.mem_of_getElem? (i := 89) rfl))) (Or.inr (hw _ (List.mem_of_getElem? (i := 94) rfl))) (by decide) (t := (.object "com/example/arcwise/arcwise/network/Trail")) (t' := .int) (by decide) (by decide)))
  have F_o0_words_80 := F_o0_words_69.other W77 (Or.inr (slot_ne (Or.inr (hw _ (List.mem_of_getElem? (i := 92) rfl))) (Or.inr (hw _ (List.mem_of_getElem? (i := 94) rfl))) (by decide) (t := (.array .long)) (t' := .int) (by decide) (by decide)))
  have F_o0_size_81 := F_o0_size_73.other W77 (Or.inr (slot_ne (Or.inl (hw _ (List.mem_of_getElem? (i := 96) rfl))) (Or.inr (hw _ (List.mem_of_getElem? (i := 94) rfl))) (by decide) (t := .int) (t' := .int) (by decide) (by decide)))
  have V_b61_82 := V_b61_74.other W77 (Ne.symm ne_o0_b61)
  have Kp83 : Keep h0 _ [o0] := Kp75.wr W77 (Or.inl (List.mem_of_getElem? (i := 0) rfl))
  have Z84 := Nat.le_trans Z76 (Keep.of_wr W77).1
  obtain ⟨L77, X77, N77⟩ := own_gl X77 (Fr.snoc X77 N69 g_o0)
  refine own_back st77 ?_
  show own_End p e below s _ _ _ (T77.setTop (mkF m 27 #[.val (.ref o0), .val (.int (0 : Int32)), .val (.ref o2), .unset] []))
  refine own_aloadN X77 hx (hb hby own_d9_27) rfl rfl (q := 28) rfl ?_
  refine own_iloadN X77 hx (hb hby own_d9_28) rfl (q := 29) rfl ?_
  obtain ⟨T85, h85, X85, e85, W85, st85⟩ := putF X77 hx hZ hown (host := "") (Or.inl (hw _ (List.mem_of_getElem? (i := 95) rfl))) Via.refl e77 F_o0_size_81 E_o0_78 (Or.inl (hw _ (List.mem_of_getElem? (i := 96) rfl))) (hw _ (List.mem_of_getElem? (i := 82) rfl)) (ty := .int) (by decide) rfl rfl (g := (mkF m 29 #[.val (.ref o0), .val (.int (0 : Int32)), .val (.ref o2), .unset] [(.int (0 : Int32)), (.ref o0)])) rfl rfl (hb hby own_d9_29)
  have F_o0_size_85 := F_o0_size_81.same W85
  have E_o0_86 := E_o0_78.wr W85
  have F_o0_trail_87 := F_o0_trail_79.other W85 (Or.inr (slot_ne (Or.inr (hw _ (List.mem_of_getElem? (i := 89) rfl))) (Or.inl (hw _ (List.mem_of_getElem? (i := 96) rfl))) (by decide) (t := (.object "com/example/arcwise/arcwise/network/Trail")) (t' := .int) (by decide) (by decide)))
  have F_o0_words_88 := F_o0_words_80.other W85 (Or.inr (slot_ne (Or.inr (hw _ (List.mem_of_getElem? (i := 92) rfl))) (Or.inl (hw _ (List.mem_of_getElem? (i := 96) rfl))) (by decide) (t := (.array .long)) (t' := .int) (by decide) (by decide)))
  have F_o0_initialSize_89 := F_o0_initialSize_77.other W85 (Or.inr (slot_ne (Or.inr (hw _ (List.mem_of_getElem? (i := 94) rfl))) (Or.inl (hw _ (List.mem_of_getElem? (i := 96) rfl))) (by decide) (t := .int) (t' := .int) (by decide) (by decide)))
  have V_b61_90 := V_b61_82.other W85 (Ne.symm ne_o0_b61)
  have Kp91 : Keep h0 _ [o0] := Kp83.wr W85 (Or.inl (List.mem_of_getElem? (i := 0) rfl))
  have Z92 := Nat.le_trans Z84 (Keep.of_wr W85).1
  obtain ⟨L85, X85, N85⟩ := own_gl X85 (Fr.snoc X85 N77 g_o0)
  refine own_back st85 ?_
  show own_End p e below s _ _ _ (T85.setTop (mkF m 32 #[.val (.ref o0), .val (.int (0 : Int32)), .val (.ref o2), .unset] []))
  refine own_iconst X85 hx (hb hby own_d9_32) (z := 0) rfl (q := 33) rfl ?_
  refine own_istoreN X85 hx (hb hby own_d9_33) (l' := #[.val (.ref o0), .val (.int (0 : Int32)), .val (.ref o2), .val (.int (0 : Int32))]) rfl (q := 34) rfl ?_
  refine own_iloadN X85 hx (hb hby own_d9_34) rfl (q := 35) rfl ?_
  refine own_iloadN X85 hx (hb hby own_d9_35) rfl (q := 36) rfl ?_
  refine own_icY X85 hx (hb hby own_d9_36) (flt (by decide : ¬ ((0 : Int32) < (0 : Int32)))).2.1 (q := 60) (by decide) (by decide) ?_
  refine own_retV X85 hx Bd.returns Bd.notSynchronized (by decide) (by decide) (hb hby own_d9_60) ?_
  show own_Q9_0 Z o0 o2 w_o0_trail w_o0_words w_o0_initialSize w_o0_size h0 n0 _ T85.heap _
  rw [e85]
  exact ⟨rfl, N85, Kp91, E_o0_86⟩
theorem own_d8_0 : decode prog_62_method_1_code 0 = .ok (.aload_n 0, 1) := by decide +kernel
theorem own_d8_1 : decode prog_62_method_1_code 1 = .ok (.invokespecial 1, 3) := by decide +kernel
theorem own_d8_4 : decode prog_62_method_1_code 4 = .ok (.aload_n 0, 1) := by decide +kernel
theorem own_d8_5 : decode prog_62_method_1_code 5 = .ok (.new 7, 3) := by decide +kernel
theorem own_d8_8 : decode prog_62_method_1_code 8 = .ok (.dup, 1) := by decide +kernel
theorem own_d8_9 : decode prog_62_method_1_code 9 = .ok (.invokespecial 9, 3) := by decide +kernel
theorem own_d8_12 : decode prog_62_method_1_code 12 = .ok (.putfield 10, 3) := by decide +kernel
theorem own_d8_15 : decode prog_62_method_1_code 15 = .ok (.aload_n 0, 1) := by decide +kernel
theorem own_d8_16 : decode prog_62_method_1_code 16 = .ok (.iload_n 1, 1) := by decide +kernel
theorem own_d8_17 : decode prog_62_method_1_code 17 = .ok (.putfield 16, 3) := by decide +kernel
theorem own_d8_20 : decode prog_62_method_1_code 20 = .ok (.aload_n 0, 1) := by decide +kernel
theorem own_d8_21 : decode prog_62_method_1_code 21 = .ok (.aload_n 2, 1) := by decide +kernel
theorem own_d8_22 : decode prog_62_method_1_code 22 = .ok (.putfield 20, 3) := by decide +kernel
theorem own_d8_25 : decode prog_62_method_1_code 25 = .ok (.aload_n 0, 1) := by decide +kernel
theorem own_d8_26 : decode prog_62_method_1_code 26 = .ok (.aload_n 3, 1) := by decide +kernel
theorem own_d8_27 : decode prog_62_method_1_code 27 = .ok (.invokevirtual 24, 3) := by decide +kernel
theorem own_d8_30 : decode prog_62_method_1_code 30 = .ok (.checkcast 25, 3) := by decide +kernel
theorem own_d8_33 : decode prog_62_method_1_code 33 = .ok (.putfield 30, 3) := by decide +kernel
theorem own_d8_36 : decode prog_62_method_1_code 36 = .ok (.aload_n 0, 1) := by decide +kernel
theorem own_d8_37 : decode prog_62_method_1_code 37 = .ok (.new 33, 3) := by decide +kernel
theorem own_d8_40 : decode prog_62_method_1_code 40 = .ok (.dup, 1) := by decide +kernel
theorem own_d8_41 : decode prog_62_method_1_code 41 = .ok (.aload_n 3, 1) := by decide +kernel
theorem own_d8_42 : decode prog_62_method_1_code 42 = .ok (.arraylength, 1) := by decide +kernel
theorem own_d8_43 : decode prog_62_method_1_code 43 = .ok (.aload 4, 2) := by decide +kernel
theorem own_d8_45 : decode prog_62_method_1_code 45 = .ok (.invokespecial 35, 3) := by decide +kernel
theorem own_pd1 : parseMethodDescriptor "(ILcom/example/arcwise/arcwise/network/Trail;)V" = some ⟨[.int, (.object "com/example/arcwise/arcwise/network/Trail")], none⟩ := by decide +kernel
theorem own_d8_48 : decode prog_62_method_1_code 48 = .ok (.putfield 38, 3) := by decide +kernel
theorem own_d8_51 : decode prog_62_method_1_code 51 = .ok (.aload_n 0, 1) := by decide +kernel
theorem own_d8_52 : decode prog_62_method_1_code 52 = .ok (.aload 5, 2) := by decide +kernel
theorem own_d8_54 : decode prog_62_method_1_code 54 = .ok (.putfield 42, 3) := by decide +kernel
theorem own_d8_57 : decode prog_62_method_1_code 57 = .ok (.return_, 1) := by decide +kernel
def own_Q8_0 (Z : State) (o0 : Addr) (p1 : Int32) (o2 : Addr) (o3 : Addr) (o4 : Addr) (o5 : Addr) (w_o0_constraints : Value) (w_o0_index : Int32) (w_o0_name : Value) (w_o0_values : Value) (w_o0_domain : Value) (w_o0_assignmentListeners : Value) (k_o3 : ClassId) (sa : Addr) (h0 : Heap) (n0 : Nat) (v : Option Value) (h : Heap) (L : List Loc) : Prop := v = none ∧ Fr n0 L ∧ Keep h0 h [o0] ∧ ∃ (b162 : Addr) (k_o3 : ClassId), h0.size ≤ b162 ∧ Exa Z h o0 "com/example/arcwise/arcwise/network/Variable" ∧ Fld Z h o0 "com/example/arcwise/arcwise/network/Variable" "values" "[I" (.ref b162) ∧ Exa Z h b162 "[I" ∧ Arv Z h b162 k_o3 .int (0 : Int32) [] (.int (0 : Int32))
theorem own_pn_rm8_0 : plainName "com/example/arcwise/arcwise/network/Variable" = true := by first | (simp [plainName, overriddenIn]; done) | decide +kernel
theorem own_ef_rm8_0 (m : MethodId) (o0 : Addr) (p1 : Int32) (o2 : Addr) (o3 : Addr) (o4 : Addr) (o5 : Addr) : entryFrame m #[(.ref o0), (.int p1), (.ref o2), (.ref o3), (.ref o4), (.ref o5)] 6 = mkF m 0 #[.val (.ref o0), .val (.int p1), .val (.ref o2), .val (.ref o3), .val (.ref o4), .val (.ref o5)] [] := by first | (simp [entryFrame, mkF, argsToLocals, Value.category]; done) | rfl
set_option maxRecDepth 65536 in
set_option maxHeartbeats 40000000 in
theorem own_rm8_0 (l : Launch) (Z : State) (a0 : Array Value) (hw : ∀ d ∈ tables_1, d.before a0 Z = true) (ws : List Jvm.Cond) (o0 : Addr) (p1 : Int32) (o2 : Addr) (o3 : Addr) (o4 : Addr) (o5 : Addr) (w_o0_constraints : Value) (w_o0_index : Int32) (w_o0_name : Value) (w_o0_values : Value) (w_o0_domain : Value) (w_o0_assignmentListeners : Value) (k_o3 : ClassId) (sa : Addr) (h0 : Heap) (n0 : Nat) (Z0 : n0 ≤ h0.size) (E_o0 : Exa Z h0 o0 "com/example/arcwise/arcwise/network/Variable") (F_o0_constraints : Fld Z h0 o0 "com/example/arcwise/arcwise/network/Variable" "constraints" "Ljava/util/List;" w_o0_constraints) (F_o0_index : Fld Z h0 o0 "com/example/arcwise/arcwise/network/Variable" "index" "I" (.int w_o0_index)) (F_o0_name : Fld Z h0 o0 "com/example/arcwise/arcwise/network/Variable" "name" "Ljava/lang/String;" w_o0_name) (F_o0_values : Fld Z h0 o0 "com/example/arcwise/arcwise/network/Variable" "values" "[I" w_o0_values) (F_o0_domain : Fld Z h0 o0 "com/example/arcwise/arcwise/network/Variable" "domain" "Lcom/example/arcwise/arcwise/network/Domain;" w_o0_domain) (F_o0_assignmentListeners : Fld Z h0 o0 "com/example/arcwise/arcwise/network/Variable" "assignmentListeners" "Ljava/util/List;" w_o0_assignmentListeners) (V_o3 : Arv Z h0 o3 k_o3 .int (0 : Int32) [] (.int (0 : Int32))) (E_o3 : Exa Z h0 o3 "[I") (ne_o0_o3 : o0 ≠ o3) (S_dc : Sta Z h0 "java/util/ArrayList" "DEFAULTCAPACITY_EMPTY_ELEMENTDATA" "[Ljava/lang/Object;" (.ref sa)) (g_o0 : n0 ≤ o0) :
    MetFree l (⟨"com/example/arcwise/arcwise/network/Variable", "<init>", "(ILjava/lang/String;[ILcom/example/arcwise/arcwise/network/Trail;Ljava/util/List;)V"⟩ : MethodName) (head1 (Jvm.Cond.code (⟨"com/example/arcwise/arcwise/network/Variable", "<init>", "(ILjava/lang/String;[ILcom/example/arcwise/arcwise/network/Trail;Ljava/util/List;)V"⟩ : MethodName) prog_62_method_1_code 6 none :: ws) ({ frames := 4, cells := 4, slots := 8, locals := 50 } : Room)) (fun a U => a = #[(.ref o0), (.int p1), (.ref o2), (.ref o3), (.ref o4), (.ref o5)] ∧ Z.Warmed39 U.vm ∧ U.heap = h0) (fun _ _ _ _ _ => True) (fun _ U o U' => ∃ v L, o = .returned v ∧ own_Q8_0 Z o0 p1 o2 o3 o4 o5 w_o0_constraints w_o0_index w_o0_name w_o0_values w_o0_domain w_o0_assignmentListeners k_o3 sa h0 n0 v U'.heap L ∧ FrameEnd U o U' L ({ frames := 4, cells := 4, slots := 8, locals := 50 } : Room).cells ({ frames := 4, cells := 4, slots := 8, locals := 50 } : Room).slots) := by
  refine MetFree.of_bodySF (plainFor_of_name own_pn_rm8_0) hisR ?_
  intro p e s m args below meth c s₁ Bd hml0 hP hK
  obtain ⟨rfl, hZ, hh⟩ := hP
  have hx := Bd.exec
  have hby := Bd.bytes
  have hml : c.maxLocals = 6 := hml0
  have hown : s.vm.findClass "com/example/arcwise/arcwise/network/Variable" = some m.cls := findClass_of_methodNamed Bd.named
  have hnm := (name_of_methodNamed Bd.named Bd.method).1
  have X0 : Stand p l e ({ frames := 4, cells := 4, slots := 8, locals := 50 } : Room) s m #[(.ref o0), (.int p1), (.ref o2), (.ref o3), (.ref o4), (.ref o5)] below meth c s₁ [] 0 0 := Stand.of_body Bd
  have e0 : s₁.heap = h0 := by rw [← hh, Bd.state]; rfl
  have N0 := Fr.nil n0
  show own_End p e below s (own_Q8_0 Z o0 p1 o2 o3 o4 o5 w_o0_constraints w_o0_index w_o0_name w_o0_values w_o0_domain w_o0_assignmentListeners k_o3 sa h0 n0) ({ frames := 4, cells := 4, slots := 8, locals := 50 } : Room).cells ({ frames := 4, cells := 4, slots := 8, locals := 50 } : Room).slots (s₁.setTop (entryFrame m #[(.ref o0), (.int p1), (.ref o2), (.ref o3), (.ref o4), (.ref o5)] 6))
  rw [own_ef_rm8_0]
  refine own_aloadN X0 hx (hb hby own_d8_0) rfl rfl (q := 1) rfl ?_
  obtain ⟨T94, X94, e94, st94⟩ := initO X0 hx hZ hown (hw _ (List.mem_of_getElem? (i := 61) rfl)) (hw _ (List.mem_of_getElem? (i := 26) rfl)) (hw _ (List.mem_of_getElem? (i := 27) rfl)) e0 (g := (mkF m 1 #[.val (.ref o0), .val (.int p1), .val (.ref o2), .val (.ref o3), .val (.ref o4), .val (.ref o5)] [(.ref o0)])) rfl (by rw [hml]; rfl) rfl (hb hby own_d8_1) (by decide) (W := 0) (by show 2 * 0 + _ ≤ _; exact Nat.le_of_eq rfl) (by decide)
  refine own_back st94 ?_
  show own_End p e below s _ _ _ (T94.setTop (mkF m 4 #[.val (.ref o0), .val (.int p1), .val (.ref o2), .val (.ref o3), .val (.ref o4), .val (.ref o5)] []))
  refine own_aloadN X94 hx (hb hby own_d8_4) rfl rfl (q := 5) rfl ?_
  obtain ⟨T95, h95, X95, e95, E95, A95, D95, -, st95⟩ := newO X94 hx hZ hown (hw _ (List.mem_of_getElem? (i := 62) rfl)) (hw _ (List.mem_of_getElem? (i := 35) rfl)) (hw _ (List.mem_of_getElem? (i := 36) rfl)) e94 (g := (mkF m 5 #[.val (.ref o0), .val (.int p1), .val (.ref o2), .val (.ref o3), .val (.ref o4), .val (.ref o5)] [(.ref o0)])) rfl (hb hby own_d8_5) (by decide) (by decide)
  obtain ⟨b95, g95⟩ : ∃ z, z = h0.size := ⟨_, rfl⟩
  have ne_o0_b95 : o0 ≠ b95 := Nat.ne_of_lt (Nat.lt_of_lt_of_le E_o0.lt (Nat.le_of_eq g95.symm))
  have ne_o3_b95 : o3 ≠ b95 := Nat.ne_of_lt (Nat.lt_of_lt_of_le V_o3.lt (Nat.le_of_eq g95.symm))
  have g_b95 : n0 ≤ b95 := Nat.le_trans Z0 (Nat.le_of_eq g95.symm)
  have sz_b95 : h0.size ≤ b95 := Nat.le_trans (Keep.refl h0 [o0]).1 (Nat.le_of_eq g95.symm)
  have Z96 := Nat.le_trans Z0 E95.1
  rw [← g95] at A95 D95 st95
  have S_dc_97 := S_dc.ext E95
  have E_o0_98 := E_o0.ext E95
  have F_o0_constraints_99 := F_o0_constraints.ext E95
  have F_o0_index_100 := F_o0_index.ext E95
  have F_o0_name_101 := F_o0_name.ext E95
  have F_o0_values_102 := F_o0_values.ext E95
  have F_o0_domain_103 := F_o0_domain.ext E95
  have F_o0_assignmentListeners_104 := F_o0_assignmentListeners.ext E95
  have V_o3_105 := V_o3.ext E95
  have E_o3_106 := E_o3.ext E95
  have Kp107 : Keep h0 _ [o0] := (Keep.refl h0 [o0]).ext E95
  have F_b95_modCount : Fld Z h95 b95 "java/util/AbstractList" "modCount" "I" (.int (0 : Int32)) := D95 (Or.inl (hw _ (List.mem_of_getElem? (i := 54) rfl))) (ty := .int) (by decide)
  have F_b95_elementData : Fld Z h95 b95 "java/util/ArrayList" "elementData" "[Ljava/lang/Object;" .null := D95 (Or.inl (hw _ (List.mem_of_getElem? (i := 57) rfl))) (ty := (.array (.object "java/lang/Object"))) (by decide)
  refine own_back st95 ?_
  show own_End p e below s _ _ _ (T95.setTop (mkF m 8 #[.val (.ref o0), .val (.int p1), .val (.ref o2), .val (.ref o3), .val (.ref o4), .val (.ref o5)] [(.ref b95), (.ref o0)]))
  refine own_dup X95 hx (hb hby own_d8_8) rfl (q := 9) rfl ?_
  obtain ⟨T108, Lc108, L108, X108, N108, hQ108, st108⟩ := own_shutV (val := none) (Q := own_Q5 Z b95 (0 : Int32) .null sa h95 n0) (rc := 0) (rs := 0) N0 (fun _ _ _ q => ⟨q.1, q.2.1⟩) (X95.specialBack hx (y := (⟨"java/util/ArrayList", "<init>", "()V"⟩ : MethodName)) rfl hown (mvT hZ (hw _ (List.mem_of_getElem? (i := 63) rfl))) (mvT hZ (hw _ (List.mem_of_getElem? (i := 38) rfl))) (mvT hZ (hw _ (List.mem_of_getElem? (i := 39) rfl))) (by decide) (backOf (W := 2) (own_rm5 l Z a0 hw [] b95 (0 : Int32) .null sa h95 n0 Z96 A95 F_b95_modCount F_b95_elementData S_dc_97 g_b95) hZ (hw _ (List.mem_of_getElem? (i := 39) rfl)) (hw _ (List.mem_of_getElem? (i := 36) rfl)) (by decide) (by decide)) (g := (mkF m 9 #[.val (.ref o0), .val (.int p1), .val (.ref o2), .val (.ref o3), .val (.ref o4), .val (.ref o5)] [(.ref b95), (.ref b95), (.ref o0)])) rfl (by rw [hml]; rfl) (Steps.refl _) (a := b95) (argsL := []) (rest := [(.ref b95), (.ref o0)]) (lenOf own_pd0 rfl) rfl (by show 2 * 0 + _ ≤ _; exact Nat.le_of_eq rfl) (hb hby own_d8_9) (fun _ _ => ⟨rfl, e95, (by decide : 1 + 0 ≤ _), (by decide : 3 + 0 ≤ _)⟩))
  obtain ⟨-, -, K108, Q108_0⟩ := hQ108
  have S_dc_109 := own_StaK S_dc_97 K108 (allS (P := fun o => ∃ C, Exa Z _ o C) ⟨_, A95⟩ all0)
  have E_o0_110 := E_o0_98.keep K108
  have F_o0_constraints_111 := F_o0_constraints_99.keep K108 (ninS ne_o0_b95 nin0)
  have F_o0_index_112 := F_o0_index_100.keep K108 (ninS ne_o0_b95 nin0)
  have F_o0_name_113 := F_o0_name_101.keep K108 (ninS ne_o0_b95 nin0)
  have F_o0_values_114 := F_o0_values_102.keep K108 (ninS ne_o0_b95 nin0)
  have F_o0_domain_115 := F_o0_domain_103.keep K108 (ninS ne_o0_b95 nin0)
  have F_o0_assignmentListeners_116 := F_o0_assignmentListeners_104.keep K108 (ninS ne_o0_b95 nin0)
  have V_o3_117 := V_o3_105.keep K108 (ninS ne_o3_b95 nin0)
  have E_o3_118 := E_o3_106.keep K108
  have A95_119 := A95.keep K108
  have Kp120 : Keep h0 _ [o0] := Kp107.trans K108 (allS (Or.inr sz_b95) all0)
  have Z121 := Nat.le_trans Z96 K108.1
  refine own_via st108 ?_
  show own_End p e below s _ _ _ (T108.setTop (mkF m 12 #[.val (.ref o0), .val (.int p1), .val (.ref o2), .val (.ref o3), .val (.ref o4), .val (.ref o5)] [(.ref b95), (.ref o0)]))
  obtain ⟨T122, h122, X122, e122, W122, st122⟩ := putF X108 hx hZ hown (host := "") (Or.inl (hw _ (List.mem_of_getElem? (i := 64) rfl))) Via.refl rfl F_o0_constraints_111 E_o0_110 (Or.inr ⟨(hw _ (List.mem_of_getElem? (i := 65) rfl)), rfl, hnm⟩) (hw _ (List.mem_of_getElem? (i := 9) rfl)) (ty := (.object "java/util/List")) (by decide) rfl rfl (g := (mkF m 12 #[.val (.ref o0), .val (.int p1), .val (.ref o2), .val (.ref o3), .val (.ref o4), .val (.ref o5)] [(.ref b95), (.ref o0)])) rfl rfl (hb hby own_d8_12)
  have F_o0_constraints_122 := F_o0_constraints_111.same W122
  have S_dc_123 := S_dc_109.wr W122
  have E_o0_124 := E_o0_110.wr W122
  have F_o0_index_125 := F_o0_index_112.other W122 (Or.inr (slot_ne (Or.inr (hw _ (List.mem_of_getElem? (i := 67) rfl))) (Or.inr (hw _ (List.mem_of_getElem? (i := 65) rfl))) (by decide) (t := .int) (t' := (.object "java/util/List")) (by decide) (by decide)))
  have F_o0_name_126 := F_o0_name_113.other W122 (Or.inr (slot_ne (Or.inr (hw _ (List.mem_of_getElem? (i := 69) rfl))) (Or.inr (hw _ (List.mem_of_getElem? (i := 65) rfl))) (by decide) (t := (.object "java/lang/String")) (t' := (.object "java/util/List")) (by decide) (by decide)))
  have F_o0_values_127 := F_o0_values_114.other W122 (Or.inr (slot_ne (Or.inr (hw _ (List.mem_of_getElem? (i := 80) rfl))) (Or.inr (hw _ (List.mem_of_getElem? (i := 65) rfl))) (by decide) (t := (.array .int)) (t' := (.object "java/util/List")) (by decide) (by decide)))
  have F_o0_domain_128 := F_o0_domain_115.other W122 (Or.inr (slot_ne (Or.inr (hw _ (List.mem_of_getElem? (i := 98) rfl))) (Or.inr (hw _ (List.mem_of_getElem? (i := 65) rfl))) (by decide) (t := (.object "com/example/arcwise/arcwise/network/Domain")) (t' := (.object "java/util/List")) (by decide) (by decide)))
  have F_o0_assignmentListeners_129 := F_o0_assignmentListeners_116.other W122 (Or.inr (slot_ne (Or.inr (hw _ (List.mem_of_getElem? (i := 100) rfl))) (Or.inr (hw _ (List.mem_of_getElem? (i := 65) rfl))) (by decide) (t := (.object "java/util/List")) (t' := (.object "java/util/List")) (by decide) (by decide)))
  have V_o3_130 := V_o3_117.other W122 (Ne.symm ne_o0_o3)
  have E_o3_131 := E_o3_118.wr W122
  have Q108_132 := Q108_0.wr W122
  have Kp133 : Keep h0 _ [o0] := Kp120.wr W122 (Or.inl (List.mem_of_getElem? (i := 0) rfl))
  have Z134 := Nat.le_trans Z121 (Keep.of_wr W122).1
  obtain ⟨L122, X122, N122⟩ := own_gl X122 (Fr.snoc X122 N108 g_o0)
  refine own_back st122 ?_
  show own_End p e below s _ _ _ (T122.setTop (mkF m 15 #[.val (.ref o0), .val (.int p1), .val (.ref o2), .val (.ref o3), .val (.ref o4), .val (.ref o5)] []))
  refine own_aloadN X122 hx (hb hby own_d8_15) rfl rfl (q := 16) rfl ?_
  refine own_iloadN X122 hx (hb hby own_d8_16) rfl (q := 17) rfl ?_
  obtain ⟨T135, h135, X135, e135, W135, st135⟩ := putF X122 hx hZ hown (host := "") (Or.inl (hw _ (List.mem_of_getElem? (i := 66) rfl))) Via.refl e122 F_o0_index_125 E_o0_124 (Or.inr ⟨(hw _ (List.mem_of_getElem? (i := 67) rfl)), rfl, hnm⟩) (hw _ (List.mem_of_getElem? (i := 9) rfl)) (ty := .int) (by decide) rfl rfl (g := (mkF m 17 #[.val (.ref o0), .val (.int p1), .val (.ref o2), .val (.ref o3), .val (.ref o4), .val (.ref o5)] [(.int p1), (.ref o0)])) rfl rfl (hb hby own_d8_17)
  have F_o0_index_135 := F_o0_index_125.same W135
  have S_dc_136 := S_dc_123.wr W135
  have E_o0_137 := E_o0_124.wr W135
  have F_o0_constraints_138 := F_o0_constraints_122.other W135 (Or.inr (slot_ne (Or.inr (hw _ (List.mem_of_getElem? (i := 65) rfl))) (Or.inr (hw _ (List.mem_of_getElem? (i := 67) rfl))) (by decide) (t := (.object "java/util/List")) (t' := .int) (by decide) (by decide)))
  have F_o0_name_139 := F_o0_name_126.other W135 (Or.inr (slot_ne (Or.inr (hw _ (List.mem_of_getElem? (i := 69) rfl))) (Or.inr (hw _ (List.mem_of_getElem? (i := 67) rfl))) (by decide) (t := (.object "java/lang/String")) (t' := .int) (by decide) (by decide)))
  have F_o0_values_140 := F_o0_values_127.other W135 (Or.inr (slot_ne (Or.inr (hw _ (List.mem_of_getElem? (i := 80) rfl))) (Or.inr (hw _ (List.mem_of_getElem? (i := 67) rfl))) (by decide) (t := (.array .int)) (t' := .int) (by decide) (by decide)))
  have F_o0_domain_141 := F_o0_domain_128.other W135 (Or.inr (slot_ne (Or.inr (hw _ (List.mem_of_getElem? (i := 98) rfl))) (Or.inr (hw _ (List.mem_of_getElem? (i := 67) rfl))) (by decide) (t := (.object "com/example/arcwise/arcwise/network/Domain")) (t' := .int) (by decide) (by decide)))
  have F_o0_assignmentListeners_142 := F_o0_assignmentListeners_129.other W135 (Or.inr (slot_ne (Or.inr (hw _ (List.mem_of_getElem? (i := 100) rfl))) (Or.inr (hw _ (List.mem_of_getElem? (i := 67) rfl))) (by decide) (t := (.object "java/util/List")) (t' := .int) (by decide) (by decide)))
  have V_o3_143 := V_o3_130.other W135 (Ne.symm ne_o0_o3)
  have E_o3_144 := E_o3_131.wr W135
  have Q108_145 := Q108_132.wr W135
  have Kp146 : Keep h0 _ [o0] := Kp133.wr W135 (Or.inl (List.mem_of_getElem? (i := 0) rfl))
  have Z147 := Nat.le_trans Z134 (Keep.of_wr W135).1
  obtain ⟨L135, X135, N135⟩ := own_gl X135 (Fr.snoc X135 N122 g_o0)
  refine own_back st135 ?_
  show own_End p e below s _ _ _ (T135.setTop (mkF m 20 #[.val (.ref o0), .val (.int p1), .val (.ref o2), .val (.ref o3), .val (.ref o4), .val (.ref o5)] []))
  refine own_aloadN X135 hx (hb hby own_d8_20) rfl rfl (q := 21) rfl ?_
  refine own_aloadN X135 hx (hb hby own_d8_21) rfl rfl (q := 22) rfl ?_
  obtain ⟨T148, h148, X148, e148, W148, st148⟩ := putF X135 hx hZ hown (host := "") (Or.inl (hw _ (List.mem_of_getElem? (i := 68) rfl))) Via.refl e135 F_o0_name_139 E_o0_137 (Or.inr ⟨(hw _ (List.mem_of_getElem? (i := 69) rfl)), rfl, hnm⟩) (hw _ (List.mem_of_getElem? (i := 9) rfl)) (ty := (.object "java/lang/String")) (by decide) rfl rfl (g := (mkF m 22 #[.val (.ref o0), .val (.int p1), .val (.ref o2), .val (.ref o3), .val (.ref o4), .val (.ref o5)] [(.ref o2), (.ref o0)])) rfl rfl (hb hby own_d8_22)
  have F_o0_name_148 := F_o0_name_139.same W148
  have S_dc_149 := S_dc_136.wr W148
  have E_o0_150 := E_o0_137.wr W148
  have F_o0_constraints_151 := F_o0_constraints_138.other W148 (Or.inr (slot_ne (Or.inr (hw _ (List.mem_of_getElem? (i := 65) rfl))) (Or.inr (hw _ (List.mem_of_getElem? (i := 69) rfl))) (by decide) (t := (.object "java/util/List")) (t' := (.object "java/lang/String")) (by decide) (by decide)))
  have F_o0_index_152 := F_o0_index_135.other W148 (Or.inr (slot_ne (Or.inr (hw _ (List.mem_of_getElem? (i := 67) rfl))) (Or.inr (hw _ (List.mem_of_getElem? (i := 69) rfl))) (by decide) (t := .int) (t' := (.object "java/lang/String")) (by decide) (by decide)))
  have F_o0_values_153 := F_o0_values_140.other W148 (Or.inr (slot_ne (Or.inr (hw _ (List.mem_of_getElem? (i := 80) rfl))) (Or.inr (hw _ (List.mem_of_getElem? (i := 69) rfl))) (by decide) (t := (.array .int)) (t' := (.object "java/lang/String")) (by decide) (by decide)))
  have F_o0_domain_154 := F_o0_domain_141.other W148 (Or.inr (slot_ne (Or.inr (hw _ (List.mem_of_getElem? (i := 98) rfl))) (Or.inr (hw _ (List.mem_of_getElem? (i := 69) rfl))) (by decide) (t := (.object "com/example/arcwise/arcwise/network/Domain")) (t' := (.object "java/lang/String")) (by decide) (by decide)))
  have F_o0_assignmentListeners_155 := F_o0_assignmentListeners_142.other W148 (Or.inr (slot_ne (Or.inr (hw _ (List.mem_of_getElem? (i := 100) rfl))) (Or.inr (hw _ (List.mem_of_getElem? (i := 69) rfl))) (by decide) (t := (.object "java/util/List")) (t' := (.object "java/lang/String")) (by decide) (by decide)))
  have V_o3_156 := V_o3_143.other W148 (Ne.symm ne_o0_o3)
  have E_o3_157 := E_o3_144.wr W148
  have Q108_158 := Q108_145.wr W148
  have Kp159 : Keep h0 _ [o0] := Kp146.wr W148 (Or.inl (List.mem_of_getElem? (i := 0) rfl))
  have Z160 := Nat.le_trans Z147 (Keep.of_wr W148).1
  obtain ⟨L148, X148, N148⟩ := own_gl X148 (Fr.snoc X148 N135 g_o0)
  refine own_back st148 ?_
  show own_End p e below s _ _ _ (T148.setTop (mkF m 25 #[.val (.ref o0), .val (.int p1), .val (.ref o2), .val (.ref o3), .val (.ref o4), .val (.ref o5)] []))
  refine own_aloadN X148 hx (hb hby own_d8_25) rfl rfl (q := 26) rfl ?_
  refine own_aloadN X148 hx (hb hby own_d8_26) rfl rfl (q := 27) rfl ?_
  obtain ⟨T162, h162, X162, e162, E162, A162, Ex162, st162⟩ := cloneH X148 hx hZ hown (hw _ (List.mem_of_getElem? (i := 70) rfl)) (hw _ (List.mem_of_getElem? (i := 71) rfl)) (hw _ (List.mem_of_getElem? (i := 75) rfl)) (hw _ (List.mem_of_getElem? (i := 73) rfl)) (hw _ (List.mem_of_getElem? (i := 74) rfl)) (hw _ (List.mem_of_getElem? (i := 76) rfl)) e148 (Arv.arh V_o3_156) E_o3_157 (g := (mkF m 27 #[.val (.ref o0), .val (.int p1), .val (.ref o2), .val (.ref o3), .val (.ref o4), .val (.ref o5)] [(.ref o3), (.ref o0)])) rfl (by rw [hml]; rfl) rfl (hb hby own_d8_27) (by decide) (W := 1) (cap := 0) (by show 2 * 0 + _ ≤ _; exact Nat.le_of_eq rfl) (by decide) (by decide) (by decide) (by decide)
  obtain ⟨b162, g162⟩ : ∃ z, z = h148.size := ⟨_, rfl⟩
  have ne_o0_b162 : o0 ≠ b162 := Nat.ne_of_lt (Nat.lt_of_lt_of_le E_o0_150.lt (Nat.le_of_eq g162.symm))
  have ne_o3_b162 : o3 ≠ b162 := Nat.ne_of_lt (Nat.lt_of_lt_of_le V_o3_156.lt (Nat.le_of_eq g162.symm))
  have ne_b95_b162 : b95 ≠ b162 := Nat.ne_of_lt (Nat.lt_of_lt_of_le Q108_158.lt (Nat.le_of_eq g162.symm))
  have g_b162 : n0 ≤ b162 := Nat.le_trans Z160 (Nat.le_of_eq g162.symm)
  have sz_b162 : h0.size ≤ b162 := Nat.le_trans Kp159.1 (Nat.le_of_eq g162.symm)
  have Z163 := Nat.le_trans Z160 E162.1
  rw [← g162] at A162 Ex162 st162
  have S_dc_164 := S_dc_149.ext E162
  have E_o0_165 := E_o0_150.ext E162
  have F_o0_constraints_166 := F_o0_constraints_151.ext E162
  have F_o0_index_167 := F_o0_index_152.ext E162
  have F_o0_name_168 := F_o0_name_148.ext E162
  have F_o0_values_169 := F_o0_values_153.ext E162
  have F_o0_domain_170 := F_o0_domain_154.ext E162
  have F_o0_assignmentListeners_171 := F_o0_assignmentListeners_155.ext E162
  have V_o3_172 := V_o3_156.ext E162
  have E_o3_173 := E_o3_157.ext E162
  have Q108_174 := Q108_158.ext E162
  have Kp175 : Keep h0 _ [o0] := Kp159.ext E162
  have V_b162 : Arv Z h162 b162 k_o3 .int (0 : Int32) [] (.int (0 : Int32)) := A162
  refine own_back st162 ?_
  show own_End p e below s _ _ _ (T162.setTop (mkF m 30 #[.val (.ref o0), .val (.int p1), .val (.ref o2), .val (.ref o3), .val (.ref o4), .val (.ref o5)] [(.ref b162), (.ref o0)]))
  obtain ⟨T176, X176, e176, st176⟩ := castY X162 hx hZ hown (hw _ (List.mem_of_getElem? (i := 77) rfl)) e162 (Ins.self Ex162) (g := (mkF m 30 #[.val (.ref o0), .val (.int p1), .val (.ref o2), .val (.ref o3), .val (.ref o4), .val (.ref o5)] [(.ref b162), (.ref o0)])) rfl rfl (hb hby own_d8_30)
  refine own_back st176 ?_
  show own_End p e below s _ _ _ (T176.setTop (mkF m 33 #[.val (.ref o0), .val (.int p1), .val (.ref o2), .val (.ref o3), .val (.ref o4), .val (.ref o5)] [(.ref b162), (.ref o0)]))
  obtain ⟨T177, h177, X177, e177, W177, st177⟩ := putF X176 hx hZ hown (host := "") (Or.inl (hw _ (List.mem_of_getElem? (i := 79) rfl))) Via.refl e176 F_o0_values_169 E_o0_165 (Or.inr ⟨(hw _ (List.mem_of_getElem? (i := 80) rfl)), rfl, hnm⟩) (hw _ (List.mem_of_getElem? (i := 9) rfl)) (ty := (.array .int)) (by decide) rfl rfl (g := (mkF m 33 #[.val (.ref o0), .val (.int p1), .val (.ref o2), .val (.ref o3), .val (.ref o4), .val (.ref o5)] [(.ref b162), (.ref o0)])) rfl rfl (hb hby own_d8_33)
  have F_o0_values_177 := F_o0_values_169.same W177
  have S_dc_178 := S_dc_164.wr W177
  have E_o0_179 := E_o0_165.wr W177
  have F_o0_constraints_180 := F_o0_constraints_166.other W177 (Or.inr (slot_ne (Or.inr (hw _ (List.mem_of_getElem? (i := 65) rfl))) (Or.inr (hw _ (List.mem_of_getElem? (i := 80) rfl))) (by decide) (t := (.object "java/util/List")) (t' := (.array .int)) (by decide) (by decide)))
  have F_o0_index_181 := F_o0_index_167.other W177 (Or.inr (slot_ne (Or.inr (hw _ (List.mem_of_getElem? (i := 67) rfl))) (Or.inr (hw _ (List.mem_of_getElem? (i := 80) rfl))) (by decide) (t := .int) (t' := (.array .int)) (by decide) (by decide)))
  have F_o0_name_182 := F_o0_name_168.other W177 (Or.inr (slot_ne (Or.inr (hw _ (List.mem_of_getElem? (i := 69) rfl))) (Or.inr (hw _ (List.mem_of_getElem? (i := 80) rfl))) (by decide) (t := (.object "java/lang/String")) (t' := (.array .int)) (by decide) (by decide)))
  have F_o0_domain_183 := F_o0_domain_170.other W177 (Or.inr (slot_ne (Or.inr (hw _ (List.mem_of_getElem? (i := 98) rfl))) (Or.inr (hw _ (List.mem_of_getElem? (i := 80) rfl))) (by decide) (t := (.object "com/example/arcwise/arcwise/network/Domain")) (t' := (.array .int)) (by decide) (by decide)))
  have F_o0_assignmentListeners_184 := F_o0_assignmentListeners_171.other W177 (Or.inr (slot_ne (Or.inr (hw _ (List.mem_of_getElem? (i := 100) rfl))) (Or.inr (hw _ (List.mem_of_getElem? (i := 80) rfl))) (by decide) (t := (.object "java/util/List")) (t' := (.array .int)) (by decide) (by decide)))
  have V_o3_185 := V_o3_172.other W177 (Ne.symm ne_o0_o3)
  have E_o3_186 := E_o3_173.wr W177
  have Q108_187 := Q108_174.wr W177
  have V_b162_188 := V_b162.other W177 (Ne.symm ne_o0_b162)
  have Ex162_189 := Ex162.wr W177
  have Kp190 : Keep h0 _ [o0] := Kp175.wr W177 (Or.inl (List.mem_of_getElem? (i := 0) rfl))
  have Z191 := Nat.le_trans Z163 (Keep.of_wr W177).1
  obtain ⟨L177, X177, N177⟩ := own_gl X177 (Fr.snoc X177 N148 g_o0)
  refine own_back st177 ?_
  show own_End p e below s _ _ _ (T177.setTop (mkF m 36 #[.val (.ref o0), .val (.int p1), .val (.ref o2), .val (.ref o3), .val (.ref o4), .val (.ref o5)] []))
  refine own_aloadN X177 hx (hb hby own_d8_36) rfl rfl (q := 37) rfl ?_
  obtain ⟨T192, h192, X192, e192, E192, A192, D192, -, st192⟩ := newO X177 hx hZ hown (hw _ (List.mem_of_getElem? (i := 81) rfl)) (hw _ (List.mem_of_getElem? (i := 82) rfl)) (hw _ (List.mem_of_getElem? (i := 83) rfl)) e177 (g := (mkF m 37 #[.val (.ref o0), .val (.int p1), .val (.ref o2), .val (.ref o3), .val (.ref o4), .val (.ref o5)] [(.ref o0)])) rfl (hb hby own_d8_37) (by decide) (by decide)
  obtain ⟨b192, g192⟩ : ∃ z, z = h177.size := ⟨_, rfl⟩
  have ne_o0_b192 : o0 ≠ b192 := Nat.ne_of_lt (Nat.lt_of_lt_of_le E_o0_179.lt (Nat.le_of_eq g192.symm))
  have ne_o3_b192 : o3 ≠ b192 := Nat.ne_of_lt (Nat.lt_of_lt_of_le V_o3_185.lt (Nat.le_of_eq g192.symm))
  have ne_b95_b192 : b95 ≠ b192 := Nat.ne_of_lt (Nat.lt_of_lt_of_le Q108_187.lt (Nat.le_of_eq g192.symm))
  have ne_b162_b192 : b162 ≠ b192 := Nat.ne_of_lt (Nat.lt_of_lt_of_le V_b162_188.lt (Nat.le_of_eq g192.symm))
  have g_b192 : n0 ≤ b192 := Nat.le_trans Z191 (Nat.le_of_eq g192.symm)
  have sz_b192 : h0.size ≤ b192 := Nat.le_trans Kp190.1 (Nat.le_of_eq g192.symm)
  have Z193 := Nat.le_trans Z191 E192.1
  rw [← g192] at A192 D192 st192
  have S_dc_194 := S_dc_178.ext E192
  have E_o0_195 := E_o0_179.ext E192
  have F_o0_constraints_196 := F_o0_constraints_180.ext E192
  have F_o0_index_197 := F_o0_index_181.ext E192
  have F_o0_name_198 := F_o0_name_182.ext E192
  have F_o0_values_199 := F_o0_values_177.ext E192
  have F_o0_domain_200 := F_o0_domain_183.ext E192
  have F_o0_assignmentListeners_201 := F_o0_assignmentListeners_184.ext E192
  have V_o3_202 := V_o3_185.ext E192
  have E_o3_203 := E_o3_186.ext E192
  have Q108_204 := Q108_187.ext E192
  have V_b162_205 := V_b162_188.ext E192
  have Ex162_206 := Ex162_189.ext E192
  have Kp207 : Keep h0 _ [o0] := Kp190.ext E192
  have F_b192_trail : Fld Z h192 b192 "com/example/arcwise/arcwise/network/Domain" "trail" "Lcom/example/arcwise/arcwise/network/Trail;" .null := D192 (Or.inr (hw _ (List.mem_of_getElem? (i := 89) rfl))) (ty := (.object "com/example/arcwise/arcwise/network/Trail")) (by decide)
  have F_b192_words : Fld Z h192 b192 "com/example/arcwise/arcwise/network/Domain" "words" "[J" .null := D192 (Or.inr (hw _ (List.mem_of_getElem? (i := 92) rfl))) (ty := (.array .long)) (by decide)
  have F_b192_initialSize : Fld Z h192 b192 "com/example/arcwise/arcwise/network/Domain" "initialSize" "I" (.int (0 : Int32)) := D192 (Or.inr (hw _ (List.mem_of_getElem? (i := 94) rfl))) (ty := .int) (by decide)
  have F_b192_size : Fld Z h192 b192 "com/example/arcwise/arcwise/network/Domain" "size" "I" (.int (0 : Int32)) := D192 (Or.inl (hw _ (List.mem_of_getElem? (i := 96) rfl))) (ty := .int) (by decide)
  refine own_back st192 ?_
  show own_End p e below s _ _ _ (T192.setTop (mkF m 40 #[.val (.ref o0), .val (.int p1), .val (.ref o2), .val (.ref o3), .val (.ref o4), .val (.ref o5)] [(.ref b192), (.ref o0)]))
  refine own_dup X192 hx (hb hby own_d8_40) rfl (q := 41) rfl ?_
  refine own_aloadN X192 hx (hb hby own_d8_41) rfl rfl (q := 42) rfl ?_
  obtain ⟨cl208, Ar208, q208, S208, N208v, H208, G208⟩ := id V_o3_202
  refine own_back (X192.arraylength hx (by rw [e192]; exact Ar208.1) (State.isArrayOf_alike hZ.alike Ar208.2.1) (g := (mkF m 42 #[.val (.ref o0), .val (.int p1), .val (.ref o2), .val (.ref o3), .val (.ref o4), .val (.ref o5)] [(.ref o3), (.ref b192), (.ref b192), (.ref o0)])) rfl rfl (hb hby own_d8_42)) ?_
  rw [len_of S208 N208v]
  show own_End p e below s _ _ _ (T192.setTop (mkF m 43 #[.val (.ref o0), .val (.int p1), .val (.ref o2), .val (.ref o3), .val (.ref o4), .val (.ref o5)] [(.int (0 : Int32)), (.ref b192), (.ref b192), (.ref o0)]))
  refine own_aload X192 hx (hb hby own_d8_43) rfl rfl (q := 45) rfl ?_
  obtain ⟨T209, Lc209, L209, X209, N209, hQ209, st209⟩ := own_shutV (val := none) (Q := own_Q9_0 Z b192 o4 .null .null (0 : Int32) (0 : Int32) h192 n0) (rc := 1) (rs := 0) N177 (fun _ _ _ q => ⟨q.1, q.2.1⟩) (X192.specialBack hx (y := (⟨"com/example/arcwise/arcwise/network/Domain", "<init>", "(ILcom/example/arcwise/arcwise/network/Trail;)V"⟩ : MethodName)) rfl hown (mvT hZ (hw _ (List.mem_of_getElem? (i := 84) rfl))) (mvT hZ (hw _ (List.mem_of_getElem? (i := 85) rfl))) (mvT hZ (hw _ (List.mem_of_getElem? (i := 86) rfl))) (by decide) (backOf (W := 2) (own_rm9_0 l Z a0 hw [] b192 o4 .null .null (0 : Int32) (0 : Int32) h192 n0 Z193 A192 F_b192_trail F_b192_words F_b192_initialSize F_b192_size g_b192) hZ (hw _ (List.mem_of_getElem? (i := 86) rfl)) (hw _ (List.mem_of_getElem? (i := 83) rfl)) (by decide) (by decide)) (g := (mkF m 45 #[.val (.ref o0), .val (.int p1), .val (.ref o2), .val (.ref o3), .val (.ref o4), .val (.ref o5)] [(.ref o4), (.int (0 : Int32)), (.ref b192), (.ref b192), (.ref o0)])) rfl (by rw [hml]; rfl) (Steps.refl _) (a := b192) (argsL := [(.int (0 : Int32)), (.ref o4)]) (rest := [(.ref b192), (.ref o0)]) (lenOf own_pd1 rfl) rfl (by show 2 * 0 + _ ≤ _; exact Nat.le_of_eq rfl) (hb hby own_d8_45) (fun _ _ => ⟨rfl, e192, (by decide : 3 + 1 ≤ _), (by decide : 8 + 0 ≤ _)⟩))
  obtain ⟨-, -, K209, Q209_0⟩ := hQ209
  have S_dc_210 := own_StaK S_dc_194 K209 (allS (P := fun o => ∃ C, Exa Z _ o C) ⟨_, A192⟩ all0)
  have E_o0_211 := E_o0_195.keep K209
  have F_o0_constraints_212 := F_o0_constraints_196.keep K209 (ninS ne_o0_b192 nin0)
  have F_o0_index_213 := F_o0_index_197.keep K209 (ninS ne_o0_b192 nin0)
  have F_o0_name_214 := F_o0_name_198.keep K209 (ninS ne_o0_b192 nin0)
  have F_o0_values_215 := F_o0_values_199.keep K209 (ninS ne_o0_b192 nin0)
  have F_o0_domain_216 := F_o0_domain_200.keep K209 (ninS ne_o0_b192 nin0)
  have F_o0_assignmentListeners_217 := F_o0_assignmentListeners_201.keep K209 (ninS ne_o0_b192 nin0)
  have V_o3_218 := V_o3_202.keep K209 (ninS ne_o3_b192 nin0)
  have E_o3_219 := E_o3_203.keep K209
  have Q108_220 := Q108_204.keep K209
  have V_b162_221 := V_b162_205.keep K209 (ninS ne_b162_b192 nin0)
  have Ex162_222 := Ex162_206.keep K209
  have A192_223 := A192.keep K209
  have Kp224 : Keep h0 _ [o0] := Kp207.trans K209 (allS (Or.inr sz_b192) all0)
  have Z225 := Nat.le_trans Z193 K209.1
  refine own_via st209 ?_
  show own_End p e below s _ _ _ (T209.setTop (mkF m 48 #[.val (.ref o0), .val (.int p1), .val (.ref o2), .val (.ref o3), .val (.ref o4), .val (.ref o5)] [(.ref b192), (.ref o0)]))
  obtain ⟨T226, h226, X226, e226, W226, st226⟩ := putF X209 hx hZ hown (host := "") (Or.inl (hw _ (List.mem_of_getElem? (i := 97) rfl))) Via.refl rfl F_o0_domain_216 E_o0_211 (Or.inr ⟨(hw _ (List.mem_of_getElem? (i := 98) rfl)), rfl, hnm⟩) (hw _ (List.mem_of_getElem? (i := 9) rfl)) (ty := (.object "com/example/arcwise/arcwise/network/Domain")) (by decide) rfl rfl (g := (mkF m 48 #[.val (.ref o0), .val (.int p1), .val (.ref o2), .val (.ref o3), .val (.ref o4), .val (.ref o5)] [(.ref b192), (.ref o0)])) rfl rfl (hb hby own_d8_48)
  have F_o0_domain_226 := F_o0_domain_216.same W226
  have S_dc_227 := S_dc_210.wr W226
  have E_o0_228 := E_o0_211.wr W226
  have F_o0_constraints_229 := F_o0_constraints_212.other W226 (Or.inr (slot_ne (Or.inr (hw _ (List.mem_of_getElem? (i := 65) rfl))) (Or.inr (hw _ (List.mem_of_getElem? (i := 98) rfl))) (by decide) (t := (.object "java/util/List")) (t' := (.object "com/example/arcwise/arcwise/network/Domain")) (by decide) (by decide)))
  have F_o0_index_230 := F_o0_index_213.other W226 (Or.inr (slot_ne (Or.inr (hw _ (List.mem_of_getElem? (i := 67) rfl))) (Or.inr (hw _ (List.mem_of_getElem? (i := 98) rfl))) (by decide) (t := .int) (t' := (.object "com/example/arcwise/arcwise/network/Domain")) (by decide) (by decide)))
  have F_o0_name_231 := F_o0_name_214.other W226 (Or.inr (slot_ne (Or.inr (hw _ (List.mem_of_getElem? (i := 69) rfl))) (Or.inr (hw _ (List.mem_of_getElem? (i := 98) rfl))) (by decide) (t := (.object "java/lang/String")) (t' := (.object "com/example/arcwise/arcwise/network/Domain")) (by decide) (by decide)))
  have F_o0_values_232 := F_o0_values_215.other W226 (Or.inr (slot_ne (Or.inr (hw _ (List.mem_of_getElem? (i := 80) rfl))) (Or.inr (hw _ (List.mem_of_getElem? (i := 98) rfl))) (by decide) (t := (.array .int)) (t' := (.object "com/example/arcwise/arcwise/network/Domain")) (by decide) (by decide)))
  have F_o0_assignmentListeners_233 := F_o0_assignmentListeners_217.other W226 (Or.inr (slot_ne (Or.inr (hw _ (List.mem_of_getElem? (i := 100) rfl))) (Or.inr (hw _ (List.mem_of_getElem? (i := 98) rfl))) (by decide) (t := (.object "java/util/List")) (t' := (.object "com/example/arcwise/arcwise/network/Domain")) (by decide) (by decide)))
  have V_o3_234 := V_o3_218.other W226 (Ne.symm ne_o0_o3)
  have E_o3_235 := E_o3_219.wr W226
  have Q108_236 := Q108_220.wr W226
  have V_b162_237 := V_b162_221.other W226 (Ne.symm ne_o0_b162)
  have Ex162_238 := Ex162_222.wr W226
  have Q209_239 := Q209_0.wr W226
  have Kp240 : Keep h0 _ [o0] := Kp224.wr W226 (Or.inl (List.mem_of_getElem? (i := 0) rfl))
  have Z241 := Nat.le_trans Z225 (Keep.of_wr W226).1
  obtain ⟨L226, X226, N226⟩ := own_gl X226 (Fr.snoc X226 N209 g_o0)
  refine own_back st226 ?_
  show own_End p e below s _ _ _ (T226.setTop (mkF m 51 #[.val (.ref o0), .val (.int p1), .val (.ref o2), .val (.ref o3), .val (.ref o4), .val (.ref o5)] []))
  refine own_aloadN X226 hx (hb hby own_d8_51) rfl rfl (q := 52) rfl ?_
  refine own_aload X226 hx (hb hby own_d8_52) rfl rfl (q := 54) rfl ?_
  obtain ⟨T242, h242, X242, e242, W242, st242⟩ := putF X226 hx hZ hown (host := "") (Or.inl (hw _ (List.mem_of_getElem? (i := 99) rfl))) Via.refl e226 F_o0_assignmentListeners_233 E_o0_228 (Or.inr ⟨(hw _ (List.mem_of_getElem? (i := 100) rfl)), rfl, hnm⟩) (hw _ (List.mem_of_getElem? (i := 9) rfl)) (ty := (.object "java/util/List")) (by decide) rfl rfl (g := (mkF m 54 #[.val (.ref o0), .val (.int p1), .val (.ref o2), .val (.ref o3), .val (.ref o4), .val (.ref o5)] [(.ref o5), (.ref o0)])) rfl rfl (hb hby own_d8_54)
  have F_o0_assignmentListeners_242 := F_o0_assignmentListeners_233.same W242
  have S_dc_243 := S_dc_227.wr W242
  have E_o0_244 := E_o0_228.wr W242
  have F_o0_constraints_245 := F_o0_constraints_229.other W242 (Or.inr (slot_ne (Or.inr (hw _ (List.mem_of_getElem? (i := 65) rfl))) (Or.inr (hw _ (List.mem_of_getElem? (i := 100) rfl))) (by decide) (t := (.object "java/util/List")) (t' := (.object "java/util/List")) (by decide) (by decide)))
  have F_o0_index_246 := F_o0_index_230.other W242 (Or.inr (slot_ne (Or.inr (hw _ (List.mem_of_getElem? (i := 67) rfl))) (Or.inr (hw _ (List.mem_of_getElem? (i := 100) rfl))) (by decide) (t := .int) (t' := (.object "java/util/List")) (by decide) (by decide)))
  have F_o0_name_247 := F_o0_name_231.other W242 (Or.inr (slot_ne (Or.inr (hw _ (List.mem_of_getElem? (i := 69) rfl))) (Or.inr (hw _ (List.mem_of_getElem? (i := 100) rfl))) (by decide) (t := (.object "java/lang/String")) (t' := (.object "java/util/List")) (by decide) (by decide)))
  have F_o0_values_248 := F_o0_values_232.other W242 (Or.inr (slot_ne (Or.inr (hw _ (List.mem_of_getElem? (i := 80) rfl))) (Or.inr (hw _ (List.mem_of_getElem? (i := 100) rfl))) (by decide) (t := (.array .int)) (t' := (.object "java/util/List")) (by decide) (by decide)))
  have F_o0_domain_249 := F_o0_domain_226.other W242 (Or.inr (slot_ne (Or.inr (hw _ (List.mem_of_getElem? (i := 98) rfl))) (Or.inr (hw _ (List.mem_of_getElem? (i := 100) rfl))) (by decide) (t := (.object "com/example/arcwise/arcwise/network/Domain")) (t' := (.object "java/util/List")) (by decide) (by decide)))
  have V_o3_250 := V_o3_234.other W242 (Ne.symm ne_o0_o3)
  have E_o3_251 := E_o3_235.wr W242
  have Q108_252 := Q108_236.wr W242
  have V_b162_253 := V_b162_237.other W242 (Ne.symm ne_o0_b162)
  have Ex162_254 := Ex162_238.wr W242
  have Q209_255 := Q209_239.wr W242
  have Kp256 : Keep h0 _ [o0] := Kp240.wr W242 (Or.inl (List.mem_of_getElem? (i := 0) rfl))
  have Z257 := Nat.le_trans Z241 (Keep.of_wr W242).1
  obtain ⟨L242, X242, N242⟩ := own_gl X242 (Fr.snoc X242 N226 g_o0)
  refine own_back st242 ?_
  show own_End p e below s _ _ _ (T242.setTop (mkF m 57 #[.val (.ref o0), .val (.int p1), .val (.ref o2), .val (.ref o3), .val (.ref o4), .val (.ref o5)] []))
  refine own_retV X242 hx Bd.returns Bd.notSynchronized (by decide) (by decide) (hb hby own_d8_57) ?_
  show own_Q8_0 Z o0 p1 o2 o3 o4 o5 w_o0_constraints w_o0_index w_o0_name w_o0_values w_o0_domain w_o0_assignmentListeners k_o3 sa h0 n0 _ T242.heap _
  rw [e242]
  exact ⟨rfl, N242, Kp256, b162, k_o3, sz_b162, E_o0_244, F_o0_values_248, Ex162_254, V_b162_253⟩
theorem own_d10_0 : decode prog_62_method_6_code 0 = .ok (.iconst 0, 1) := by decide +kernel
theorem own_d10_1 : decode prog_62_method_6_code 1 = .ok (.istore_n 3, 1) := by decide +kernel
theorem own_d10_2 : decode prog_62_method_6_code 2 = .ok (.aload_n 0, 1) := by decide +kernel
theorem own_d10_3 : decode prog_62_method_6_code 3 = .ok (.getfield 30, 3) := by decide +kernel
theorem own_d10_6 : decode prog_62_method_6_code 6 = .ok (.arraylength, 1) := by decide +kernel
theorem own_d10_7 : decode prog_62_method_6_code 7 = .ok (.istore 4, 2) := by decide +kernel
theorem own_d10_9 : decode prog_62_method_6_code 9 = .ok (.iload_n 3, 1) := by decide +kernel
theorem own_d10_10 : decode prog_62_method_6_code 10 = .ok (.iload 4, 2) := by decide +kernel
theorem own_d10_12 : decode prog_62_method_6_code 12 = .ok (.if_icmp .ge 39, 3) := by decide +kernel
theorem own_d10_51 : decode prog_62_method_6_code 51 = .ok (.iload_n 3, 1) := by decide +kernel
theorem own_d10_52 : decode prog_62_method_6_code 52 = .ok (.ireturn, 1) := by decide +kernel
def own_Q10_0 (Z : State) (o0 : Addr) (q1 : Int64) (w_o0_values : Addr) (k_w_o0_values : ClassId) (h0 : Heap) (n0 : Nat) (v : Option Value) (h : Heap) (L : List Loc) : Prop := v = some (.int (0 : Int32)) ∧ Fr n0 L ∧ h = h0
theorem own_pn_rm10_0 : plainName "com/example/arcwise/arcwise/network/Variable" = true := by first | (simp [plainName, overriddenIn]; done) | decide +kernel
theorem own_ef_rm10_0 (m : MethodId) (o0 : Addr) (q1 : Int64) : entryFrame m #[(.ref o0), (.long q1)] 6 = mkF m 0 #[.val (.ref o0), .val (.long q1), .second, .unset, .unset, .unset] [] := by first | (simp [entryFrame, mkF, argsToLocals, Value.category]; done) | rfl
set_option maxRecDepth 65536 in
set_option maxHeartbeats 40000000 in
theorem own_rm10_0 (l : Launch) (Z : State) (a0 : Array Value) (hw : ∀ d ∈ tables_1, d.before a0 Z = true) (ws : List Jvm.Cond) (o0 : Addr) (q1 : Int64) (w_o0_values : Addr) (k_w_o0_values : ClassId) (h0 : Heap) (n0 : Nat) (Z0 : n0 ≤ h0.size) (E_o0 : Exa Z h0 o0 "com/example/arcwise/arcwise/network/Variable") (F_o0_values : Fld Z h0 o0 "com/example/arcwise/arcwise/network/Variable" "values" "[I" (.ref w_o0_values)) (V_w_o0_values : Arv Z h0 w_o0_values k_w_o0_values .int (0 : Int32) [] (.int (0 : Int32))) :
    MetFree l (⟨"com/example/arcwise/arcwise/network/Variable", "indexAtLeast", "(J)I"⟩ : MethodName) (head1 (Jvm.Cond.code (⟨"com/example/arcwise/arcwise/network/Variable", "indexAtLeast", "(J)I"⟩ : MethodName) prog_62_method_6_code 6 (some .int) :: ws) ({ frames := 0, cells := 0, slots := 0, locals := 0 } : Room)) (fun a U => a = #[(.ref o0), (.long q1)] ∧ Z.Warmed39 U.vm ∧ U.heap = h0) (fun _ _ _ _ _ => True) (fun _ U o U' => ∃ v L, o = .returned v ∧ own_Q10_0 Z o0 q1 w_o0_values k_w_o0_values h0 n0 v U'.heap L ∧ FrameEnd U o U' L ({ frames := 0, cells := 0, slots := 0, locals := 0 } : Room).cells ({ frames := 0, cells := 0, slots := 0, locals := 0 } : Room).slots) := by
  refine MetFree.of_bodySF (plainFor_of_name own_pn_rm10_0) hisR ?_
  intro p e s m args below meth c s₁ Bd hml0 hP hK
  obtain ⟨rfl, hZ, hh⟩ := hP
  have hx := Bd.exec
  have hby := Bd.bytes
  have hml : c.maxLocals = 6 := hml0
  have hown : s.vm.findClass "com/example/arcwise/arcwise/network/Variable" = some m.cls := findClass_of_methodNamed Bd.named
  have hnm := (name_of_methodNamed Bd.named Bd.method).1
  have X0 : Stand p l e ({ frames := 0, cells := 0, slots := 0, locals := 0 } : Room) s m #[(.ref o0), (.long q1)] below meth c s₁ [] 0 0 := Stand.of_body Bd
  have e0 : s₁.heap = h0 := by rw [← hh, Bd.state]; rfl
  have N0 := Fr.nil n0
  show own_End p e below s (own_Q10_0 Z o0 q1 w_o0_values k_w_o0_values h0 n0) ({ frames := 0, cells := 0, slots := 0, locals := 0 } : Room).cells ({ frames := 0, cells := 0, slots := 0, locals := 0 } : Room).slots (s₁.setTop (entryFrame m #[(.ref o0), (.long q1)] 6))
  rw [own_ef_rm10_0]
  refine own_iconst X0 hx (hb hby own_d10_0) (z := 0) rfl (q := 1) rfl ?_
  refine own_istoreN X0 hx (hb hby own_d10_1) (l' := #[.val (.ref o0), .val (.long q1), .second, .val (.int (0 : Int32)), .unset, .unset]) rfl (q := 2) rfl ?_
  refine own_aloadN X0 hx (hb hby own_d10_2) rfl rfl (q := 3) rfl ?_
  obtain ⟨T259, X259, e259, st259⟩ := getF X0 hx hZ hown (host := "") (Or.inl (hw _ (List.mem_of_getElem? (i := 79) rfl))) Via.refl e0 F_o0_values (g := (mkF m 3 #[.val (.ref o0), .val (.long q1), .second, .val (.int (0 : Int32)), .unset, .unset] [(.ref o0)])) rfl rfl (hb hby own_d10_3)
  refine own_back st259 ?_
  show own_End p e below s _ _ _ (T259.setTop (mkF m 6 #[.val (.ref o0), .val (.long q1), .second, .val (.int (0 : Int32)), .unset, .unset] [(.ref w_o0_values)]))
  obtain ⟨cl260, Ar260, q260, S260, N260v, H260, G260⟩ := id V_w_o0_values
  refine own_back (X259.arraylength hx (by rw [e259]; exact Ar260.1) (State.isArrayOf_alike hZ.alike Ar260.2.1) (g := (mkF m 6 #[.val (.ref o0), .val (.long q1), .second, .val (.int (0 : Int32)), .unset, .unset] [(.ref w_o0_values)])) rfl rfl (hb hby own_d10_6)) ?_
  rw [len_of S260 N260v]
  show own_End p e below s _ _ _ (T259.setTop (mkF m 7 #[.val (.ref o0), .val (.long q1), .second, .val (.int (0 : Int32)), .unset, .unset] [(.int (0 : Int32))]))
  refine own_istore X259 hx (hb hby own_d10_7) (l' := #[.val (.ref o0), .val (.long q1), .second, .val (.int (0 : Int32)), .val (.int (0 : Int32)), .unset]) rfl (q := 9) rfl ?_
  refine own_iloadN X259 hx (hb hby own_d10_9) rfl (q := 10) rfl ?_
  refine own_iload X259 hx (hb hby own_d10_10) rfl (q := 12) rfl ?_
  refine own_icY X259 hx (hb hby own_d10_12) (flt (by decide : ¬ ((0 : Int32) < (0 : Int32)))).2.1 (q := 51) (by decide) (by decide) ?_
  refine own_iloadN X259 hx (hb hby own_d10_51) rfl (q := 52) rfl ?_
  refine own_retI X259 hx Bd.returns Bd.notSynchronized (by decide) (by decide) (hb hby own_d10_52) ?_
  show own_Q10_0 Z o0 q1 w_o0_values k_w_o0_values h0 n0 _ T259.heap _
  exact ⟨rfl, N0, e259⟩
theorem own_d9_39 : decode prog_59_method_1_code 39 = .ok (.aload_n 0, 1) := by decide +kernel
theorem own_d9_40 : decode prog_59_method_1_code 40 = .ok (.getfield 13, 3) := by decide +kernel
theorem own_d9_43 : decode prog_59_method_1_code 43 = .ok (.iload_n 3, 1) := by decide +kernel
theorem own_d9_44 : decode prog_59_method_1_code 44 = .ok (.bipush 6, 2) := by decide +kernel
theorem own_d9_46 : decode prog_59_method_1_code 46 = .ok (.iushr, 1) := by decide +kernel
theorem own_d9_47 : decode prog_59_method_1_code 47 = .ok (.dup2, 1) := by decide +kernel
theorem own_d9_48 : decode prog_59_method_1_code 48 = .ok (.laload, 1) := by decide +kernel
theorem own_d9_49 : decode prog_59_method_1_code 49 = .ok (.lconst 1, 1) := by decide +kernel
theorem own_d9_50 : decode prog_59_method_1_code 50 = .ok (.iload_n 3, 1) := by decide +kernel
theorem own_d9_51 : decode prog_59_method_1_code 51 = .ok (.lshl, 1) := by decide +kernel
theorem own_d9_52 : decode prog_59_method_1_code 52 = .ok (.lor, 1) := by decide +kernel
theorem own_d9_53 : decode prog_59_method_1_code 53 = .ok (.lastore, 1) := by decide +kernel
theorem own_d9_54 : decode prog_59_method_1_code 54 = .ok (.iinc 3 1, 3) := by decide +kernel
theorem own_d9_57 : decode prog_59_method_1_code 57 = .ok (.goto (-23), 3) := by decide +kernel
def own_Q9_1 (Z : State) (o0 : Addr) (o2 : Addr) (w_o0_trail : Value) (w_o0_words : Value) (w_o0_initialSize : Int32) (w_o0_size : Int32) (h0 : Heap) (n0 : Nat) (v : Option Value) (h : Heap) (L : List Loc) : Prop := v = none ∧ Fr n0 L ∧ Keep h0 h [o0] ∧ Exa Z h o0 "com/example/arcwise/arcwise/network/Domain"
theorem own_pn_rm9_1 : plainName "com/example/arcwise/arcwise/network/Domain" = true := by first | (simp [plainName, overriddenIn]; done) | decide +kernel
theorem own_ef_rm9_1 (m : MethodId) (o0 : Addr) (o2 : Addr) : entryFrame m #[(.ref o0), (.int (1 : Int32)), (.ref o2)] 4 = mkF m 0 #[.val (.ref o0), .val (.int (1 : Int32)), .val (.ref o2), .unset] [] := by first | (simp [entryFrame, mkF, argsToLocals, Value.category]; done) | rfl
set_option maxRecDepth 65536 in
set_option maxHeartbeats 40000000 in
theorem own_rm9_1 (l : Launch) (Z : State) (a0 : Array Value) (hw : ∀ d ∈ tables_1, d.before a0 Z = true) (ws : List Jvm.Cond) (o0 : Addr) (o2 : Addr) (w_o0_trail : Value) (w_o0_words : Value) (w_o0_initialSize : Int32) (w_o0_size : Int32) (h0 : Heap) (n0 : Nat) (Z0 : n0 ≤ h0.size) (E_o0 : Exa Z h0 o0 "com/example/arcwise/arcwise/network/Domain") (F_o0_trail : Fld Z h0 o0 "com/example/arcwise/arcwise/network/Domain" "trail" "Lcom/example/arcwise/arcwise/network/Trail;" w_o0_trail) (F_o0_words : Fld Z h0 o0 "com/example/arcwise/arcwise/network/Domain" "words" "[J" w_o0_words) (F_o0_initialSize : Fld Z h0 o0 "com/example/arcwise/arcwise/network/Domain" "initialSize" "I" (.int w_o0_initialSize)) (F_o0_size : Fld Z h0 o0 "com/example/arcwise/arcwise/network/Domain" "size" "I" (.int w_o0_size)) (g_o0 : n0 ≤ o0) :
    MetFree l (⟨"com/example/arcwise/arcwise/network/Domain", "<init>", "(ILcom/example/arcwise/arcwise/network/Trail;)V"⟩ : MethodName) (head1 (Jvm.Cond.code (⟨"com/example/arcwise/arcwise/network/Domain", "<init>", "(ILcom/example/arcwise/arcwise/network/Trail;)V"⟩ : MethodName) prog_59_method_1_code 4 none :: ws) ({ frames := 1, cells := 1, slots := 1, locals := 12 } : Room)) (fun a U => a = #[(.ref o0), (.int (1 : Int32)), (.ref o2)] ∧ Z.Warmed39 U.vm ∧ U.heap = h0) (fun _ _ _ _ _ => True) (fun _ U o U' => ∃ v L, o = .returned v ∧ own_Q9_1 Z o0 o2 w_o0_trail w_o0_words w_o0_initialSize w_o0_size h0 n0 v U'.heap L ∧ FrameEnd U o U' L ({ frames := 1, cells := 1, slots := 1, locals := 12 } : Room).cells ({ frames := 1, cells := 1, slots := 1, locals := 12 } : Room).slots) := by
  refine MetFree.of_bodySF (plainFor_of_name own_pn_rm9_1) hisR ?_
  intro p e s m args below meth c s₁ Bd hml0 hP hK
  obtain ⟨rfl, hZ, hh⟩ := hP
  have hx := Bd.exec
  have hby := Bd.bytes
  have hml : c.maxLocals = 4 := hml0
  have hown : s.vm.findClass "com/example/arcwise/arcwise/network/Domain" = some m.cls := findClass_of_methodNamed Bd.named
  have hnm := (name_of_methodNamed Bd.named Bd.method).1
  have X0 : Stand p l e ({ frames := 1, cells := 1, slots := 1, locals := 12 } : Room) s m #[(.ref o0), (.int (1 : Int32)), (.ref o2)] below meth c s₁ [] 0 0 := Stand.of_body Bd
  have e0 : s₁.heap = h0 := by rw [← hh, Bd.state]; rfl
  have N0 := Fr.nil n0
  show own_End p e below s (own_Q9_1 Z o0 o2 w_o0_trail w_o0_words w_o0_initialSize w_o0_size h0 n0) ({ frames := 1, cells := 1, slots := 1, locals := 12 } : Room).cells ({ frames := 1, cells := 1, slots := 1, locals := 12 } : Room).slots (s₁.setTop (entryFrame m #[(.ref o0), (.int (1 : Int32)), (.ref o2)] 4))
  rw [own_ef_rm9_1]
  refine own_aloadN X0 hx (hb hby own_d9_0) rfl rfl (q := 1) rfl ?_
  obtain ⟨T262, X262, e262, st262⟩ := initO X0 hx hZ hown (hw _ (List.mem_of_getElem? (i := 87) rfl)) (hw _ (List.mem_of_getElem? (i := 26) rfl)) (hw _ (List.mem_of_getElem? (i := 27) rfl)) e0 (g := (mkF m 1 #[.val (.ref o0), .val (.int (1 : Int32)), .val (.ref o2), .unset] [(.ref o0)])) rfl (by rw [hml]; rfl) rfl (hb hby own_d9_1) (by decide) (W := 0) (by show 2 * 0 + _ ≤ _; exact Nat.le_of_eq rfl) (by decide)
  refine own_back st262 ?_
  show own_End p e below s _ _ _ (T262.setTop (mkF m 4 #[.val (.ref o0), .val (.int (1 : Int32)), .val (.ref o2), .unset] []))
  refine own_aloadN X262 hx (hb hby own_d9_4) rfl rfl (q := 5) rfl ?_
  refine own_aloadN X262 hx (hb hby own_d9_5) rfl rfl (q := 6) rfl ?_
  obtain ⟨T263, h263, X263, e263, W263, st263⟩ := putF X262 hx hZ hown (host := "") (Or.inl (hw _ (List.mem_of_getElem? (i := 88) rfl))) Via.refl e262 F_o0_trail E_o0 (Or.inr ⟨(hw _ (List.mem_of_getElem? (i := 89) rfl)), rfl, hnm⟩) (hw _ (List.mem_of_getElem? (i := 82) rfl)) (ty := (.object "com/example/arcwise/arcwise/network/Trail")) (by decide) rfl rfl (g := (mkF m 6 #[.val (.ref o0), .val (.int (1 : Int32)), .val (.ref o2), .unset] [(.ref o2), (.ref o0)])) rfl rfl (hb hby own_d9_6)
  have F_o0_trail_263 := F_o0_trail.same W263
  have E_o0_264 := E_o0.wr W263
  have F_o0_words_265 := F_o0_words.other W263 (Or.inr (slot_ne (Or.inr (hw _ (List.mem_of_getElem? (i := 92) rfl))) (Or.inr (hw _ (List.mem_of_getElem? (i := 89) rfl))) (by decide) (t := (.array .long)) (t' := (.object "com/example/arcwise/arcwise/network/Trail")) (by decide) (by decide)))
  have F_o0_initialSize_266 := F_o0_initialSize.other W263 (Or.inr (slot_ne (Or.inr (hw _ (List.mem_of_getElem? (i := 94) rfl))) (Or.inr (hw _ (List.mem_of_getElem? (i := 89) rfl))) (by decide) (t := .int) (t' := (.object "com/example/arcwise/arcwise/network/Trail")) (by decide) (by decide)))
  have F_o0_size_267 := F_o0_size.other W263 (Or.inr (slot_ne (Or.inl (hw _ (List.mem_of_getElem? (i := 96) rfl))) (Or.inr (hw _ (List.mem_of_getElem? (i := 89) rfl))) (by decide) (t := .int) (t' := (.object "com/example/arcwise/arcwise/network/Trail")) (by decide) (by decide)))
  have Kp268 : Keep h0 _ [o0] := (Keep.refl h0 [o0]).wr W263 (Or.inl (List.mem_of_getElem? (i := 0) rfl))
  have Z269 := Nat.le_trans Z0 (Keep.of_wr W263).1
  obtain ⟨L263, X263, N263⟩ := own_gl X263 (Fr.snoc X263 N0 g_o0)
  refine own_back st263 ?_
  show own_End p e below s _ _ _ (T263.setTop (mkF m 9 #[.val (.ref o0), .val (.int (1 : Int32)), .val (.ref o2), .unset] []))
  refine own_aloadN X263 hx (hb hby own_d9_9) rfl rfl (q := 10) rfl ?_
  refine own_iloadN X263 hx (hb hby own_d9_10) rfl (q := 11) rfl ?_
  refine own_bipush X263 hx (hb hby own_d9_11) (z := 63) rfl (q := 13) rfl ?_
  refine own_iadd X263 hx (hb hby own_d9_13) (q := 14) rfl ?_
  show own_End p e below s _ _ _ (T263.setTop (mkF m 14 #[.val (.ref o0), .val (.int (1 : Int32)), .val (.ref o2), .unset] [(.int (64 : Int32)), (.ref o0)]))
  refine own_bipush X263 hx (hb hby own_d9_14) (z := 6) rfl (q := 16) rfl ?_
  refine own_iushr X263 hx (hb hby own_d9_16) (q := 17) rfl ?_
  show own_End p e below s _ _ _ (T263.setTop (mkF m 17 #[.val (.ref o0), .val (.int (1 : Int32)), .val (.ref o2), .unset] [(.int (1 : Int32)), (.ref o0)]))
  obtain ⟨T270, h270, k270, X270, e270, E270, A270, st270⟩ := newP X263 hx hZ (hw _ (List.mem_of_getElem? (i := 90) rfl)) e263 (g := (mkF m 17 #[.val (.ref o0), .val (.int (1 : Int32)), .val (.ref o2), .unset] [(.int (1 : Int32)), (.ref o0)])) rfl (hb hby own_d9_17) rfl (by decide) (cap := 1) (by decide) (by decide) (by decide) (by decide)
  obtain ⟨b270, g270⟩ : ∃ z, z = h263.size := ⟨_, rfl⟩
  have ne_o0_b270 : o0 ≠ b270 := Nat.ne_of_lt (Nat.lt_of_lt_of_le E_o0_264.lt (Nat.le_of_eq g270.symm))
  have g_b270 : n0 ≤ b270 := Nat.le_trans Z269 (Nat.le_of_eq g270.symm)
  have sz_b270 : h0.size ≤ b270 := Nat.le_trans Kp268.1 (Nat.le_of_eq g270.symm)
  have Z271 := Nat.le_trans Z269 E270.1
  rw [← g270] at A270 st270
  have E_o0_272 := E_o0_264.ext E270
  have F_o0_trail_273 := F_o0_trail_263.ext E270
  have F_o0_words_274 := F_o0_words_265.ext E270
  have F_o0_initialSize_275 := F_o0_initialSize_266.ext E270
  have F_o0_size_276 := F_o0_size_267.ext E270
  have Kp277 : Keep h0 _ [o0] := Kp268.ext E270
  have V_b270 : Arv Z h270 b270 k270 .long (1 : Int32) [(.long (0 : Int64))] (.long (0 : Int64)) := (Arv.new A270 (by decide)).pad (pad_rep [] (.long (0 : Int64)) 1)
  refine own_back st270 ?_
  show own_End p e below s _ _ _ (T270.setTop (mkF m 19 #[.val (.ref o0), .val (.int (1 : Int32)), .val (.ref o2), .unset] [(.ref b270), (.ref o0)]))
  obtain ⟨T278, h278, X278, e278, W278, st278⟩ := putF X270 hx hZ hown (host := "") (Or.inl (hw _ (List.mem_of_getElem? (i := 91) rfl))) Via.refl e270 F_o0_words_274 E_o0_272 (Or.inr ⟨(hw _ (List.mem_of_getElem? (i := 92) rfl)), rfl, hnm⟩) (hw _ (List.mem_of_getElem? (i := 82) rfl)) (ty := (.array .long)) (by decide) rfl rfl (g := (mkF m 19 #[.val (.ref o0), .val (.int (1 : Int32)), .val (.ref o2), .unset] [(.ref b270), (.ref o0)])) rfl rfl (hb hby own_d9_19)
  have F_o0_words_278 := F_o0_words_274.same W278
  have E_o0_279 := E_o0_272.wr W278
  have F_o0_trail_280 := F_o0_trail_273.other W278 (Or.inr (slot_ne (Or.inr (hw _ (List.mem_of_getElem? (i := 89) rfl))) (Or.inr (hw _ (List.mem_of_getElem? (i := 92) rfl))) (by decide) (t := (.object "com/example/arcwise/arcwise/network/Trail")) (t' := (.array .long)) (by decide) (by decide)))
  have F_o0_initialSize_281 := F_o0_initialSize_275.other W278 (Or.inr (slot_ne (Or.inr (hw _ (List.mem_of_getElem? (i := 94) rfl))) (Or.inr (hw _ (List.mem_of_getElem? (i := 92) rfl))) (by decide) (t := .int) (t' := (.array .long)) (by decide) (by decide)))
  have F_o0_size_282 := F_o0_size_276.other W278 (Or.inr (slot_ne (Or.inl (hw _ (List.mem_of_getElem? (i := 96) rfl))) (Or.inr (hw _ (List.mem_of_getElem? (i := 92) rfl))) (by decide) (t := .int) (t' := (.array .long)) (by decide) (by decide)))
  have V_b270_283 := V_b270.other W278 (Ne.symm ne_o0_b270)
  have Kp284 : Keep h0 _ [o0] := Kp277.wr W278 (Or.inl (List.mem_of_getElem? (i := 0) rfl))
  have Z285 := Nat.le_trans Z271 (Keep.of_wr W278).1
  obtain ⟨L278, X278, N278⟩ := own_gl X278 (Fr.snoc X278 N263 g_o0)
  refine own_back st278 ?_
  show own_End p e below s _ _ _ (T278.setTop (mkF m 22 #[.val (.ref o0), .val (.int (1 : Int32)), .val (.ref o2), .unset] []))
  refine own_aloadN X278 hx (hb hby own_d9_22) rfl rfl (q := 23) rfl ?_
  refine own_iloadN X278 hx (hb hby own_d9_23) rfl (q := 24) rfl ?_
  obtain ⟨T286, h286, X286, e286, W286, st286⟩ := putF X278 hx hZ hown (host := "") (Or.inl (hw _ (List.mem_of_getElem? (i := 93) rfl))) Via.refl e278 F_o0_initialSize_281 E_o0_279 (Or.inr ⟨(hw _ (List.mem_of_getElem? (i := 94) rfl)), rfl, hnm⟩) (hw _ (List.mem_of_getElem? (i := 82) rfl)) (ty := .int) (by decide) rfl rfl (g := (mkF m 24 #[.val (.ref o0), .val (.int (1 : Int32)), .val (.ref o2), .unset] [(.int (1 : Int32)), (.ref o0)])) rfl rfl (hb hby own_d9_24)
  have F_o0_initialSize_286 := F_o0_initialSize_281.same W286
  have E_o0_287 := E_o0_279.wr W286
  have F_o0_trail_288 := F_o0_trail_280.other W286 (Or.inr (slot_ne (Or.inr (hw _ (List.mem_of_getElem? (i := 89) rfl))) (Or.inr (hw _ (List.mem_of_getElem? (i := 94) rfl))) (by decide) (t := (.object "com/example/arcwise/arcwise/network/Trail")) (t' := .int) (by decide) (by decide)))
  have F_o0_words_289 := F_o0_words_278.other W286 (Or.inr (slot_ne (Or.inr (hw _ (List.mem_of_getElem? (i := 92) rfl))) (Or.inr (hw _ (List.mem_of_getElem? (i := 94) rfl))) (by decide) (t := (.array .long)) (t' := .int) (by decide) (by decide)))
  have F_o0_size_290 := F_o0_size_282.other W286 (Or.inr (slot_ne (Or.inl (hw _ (List.mem_of_getElem? (i := 96) rfl))) (Or.inr (hw _ (List.mem_of_getElem? (i := 94) rfl))) (by decide) (t := .int) (t' := .int) (by decide) (by decide)))
  have V_b270_291 := V_b270_283.other W286 (Ne.symm ne_o0_b270)
  have Kp292 : Keep h0 _ [o0] := Kp284.wr W286 (Or.inl (List.mem_of_getElem? (i := 0) rfl))
  have Z293 := Nat.le_trans Z285 (Keep.of_wr W286).1
  obtain ⟨L286, X286, N286⟩ := own_gl X286 (Fr.snoc X286 N278 g_o0)
  refine own_back st286 ?_
  show own_End p e below s _ _ _ (T286.setTop (mkF m 27 #[.val (.ref o0), .val (.int (1 : Int32)), .val (.ref o2), .unset] []))
  refine own_aloadN X286 hx (hb hby own_d9_27) rfl rfl (q := 28) rfl ?_
  refine own_iloadN X286 hx (hb hby own_d9_28) rfl (q := 29) rfl ?_
  obtain ⟨T294, h294, X294, e294, W294, st294⟩ := putF X286 hx hZ hown (host := "") (Or.inl (hw _ (List.mem_of_getElem? (i := 95) rfl))) Via.refl e286 F_o0_size_290 E_o0_287 (Or.inl (hw _ (List.mem_of_getElem? (i := 96) rfl))) (hw _ (List.mem_of_getElem? (i := 82) rfl)) (ty := .int) (by decide) rfl rfl (g := (mkF m 29 #[.val (.ref o0), .val (.int (1 : Int32)), .val (.ref o2), .unset] [(.int (1 : Int32)), (.ref o0)])) rfl rfl (hb hby own_d9_29)
  have F_o0_size_294 := F_o0_size_290.same W294
  have E_o0_295 := E_o0_287.wr W294
  have F_o0_trail_296 := F_o0_trail_288.other W294 (Or.inr (slot_ne (Or.inr (hw _ (List.mem_of_getElem? (i := 89) rfl))) (Or.inl (hw _ (List.mem_of_getElem? (i := 96) rfl))) (by decide) (t := (.object "com/example/arcwise/arcwise/network/Trail")) (t' := .int) (by decide) (by decide)))
  have F_o0_words_297 := F_o0_words_289.other W294 (Or.inr (slot_ne (Or.inr (hw _ (List.mem_of_getElem? (i := 92) rfl))) (Or.inl (hw _ (List.mem_of_getElem? (i := 96) rfl))) (by decide) (t := (.array .long)) (t' := .int) (by decide) (by decide)))
  have F_o0_initialSize_298 := F_o0_initialSize_286.other W294 (Or.inr (slot_ne (Or.inr (hw _ (List.mem_of_getElem? (i := 94) rfl))) (Or.inl (hw _ (List.mem_of_getElem? (i := 96) rfl))) (by decide) (t := .int) (t' := .int) (by decide) (by decide)))
  have V_b270_299 := V_b270_291.other W294 (Ne.symm ne_o0_b270)
  have Kp300 : Keep h0 _ [o0] := Kp292.wr W294 (Or.inl (List.mem_of_getElem? (i := 0) rfl))
  have Z301 := Nat.le_trans Z293 (Keep.of_wr W294).1
  obtain ⟨L294, X294, N294⟩ := own_gl X294 (Fr.snoc X294 N286 g_o0)
  refine own_back st294 ?_
  show own_End p e below s _ _ _ (T294.setTop (mkF m 32 #[.val (.ref o0), .val (.int (1 : Int32)), .val (.ref o2), .unset] []))
  refine own_iconst X294 hx (hb hby own_d9_32) (z := 0) rfl (q := 33) rfl ?_
  refine own_istoreN X294 hx (hb hby own_d9_33) (l' := #[.val (.ref o0), .val (.int (1 : Int32)), .val (.ref o2), .val (.int (0 : Int32))]) rfl (q := 34) rfl ?_
  refine own_iloadN X294 hx (hb hby own_d9_34) rfl (q := 35) rfl ?_
  refine own_iloadN X294 hx (hb hby own_d9_35) rfl (q := 36) rfl ?_
  refine own_icN X294 hx (hb hby own_d9_36) (tlt (by decide : ((0 : Int32) < (1 : Int32)))).2.1 (q := 39) rfl ?_
  refine own_aloadN X294 hx (hb hby own_d9_39) rfl rfl (q := 40) rfl ?_
  obtain ⟨T302, X302, e302, st302⟩ := getF X294 hx hZ hown (host := "") (Or.inl (hw _ (List.mem_of_getElem? (i := 91) rfl))) Via.refl e294 F_o0_words_297 (g := (mkF m 40 #[.val (.ref o0), .val (.int (1 : Int32)), .val (.ref o2), .val (.int (0 : Int32))] [(.ref o0)])) rfl rfl (hb hby own_d9_40)
  refine own_back st302 ?_
  show own_End p e below s _ _ _ (T302.setTop (mkF m 43 #[.val (.ref o0), .val (.int (1 : Int32)), .val (.ref o2), .val (.int (0 : Int32))] [(.ref b270)]))
  refine own_iloadN X302 hx (hb hby own_d9_43) rfl (q := 44) rfl ?_
  refine own_bipush X302 hx (hb hby own_d9_44) (z := 6) rfl (q := 46) rfl ?_
  refine own_iushr X302 hx (hb hby own_d9_46) (q := 47) rfl ?_
  show own_End p e below s _ _ _ (T302.setTop (mkF m 47 #[.val (.ref o0), .val (.int (1 : Int32)), .val (.ref o2), .val (.int (0 : Int32))] [(.int (0 : Int32)), (.ref b270)]))
  refine own_back (fun _ k => ?_) (b := T302.setTop (mkF m 48 #[.val (.ref o0), .val (.int (1 : Int32)), .val (.ref o2), .val (.int (0 : Int32))] [(.int (0 : Int32)), (.ref b270), (.int (0 : Int32)), (.ref b270)])) ?_
  · jvm_step X302.here [X302.here.top, hx, (hb hby own_d9_47), Value.category]
    exact k
  obtain ⟨cl303, Ar303, q303, S303, N303v, H303, G303⟩ := id V_b270_299
  have hin303 : ¬ ((0 : Int32) < 0 ∨ cl303.slots.size ≤ ((0 : Int32)).toNatClampNeg) := inb_of S303 ⟨by decide, by decide⟩
  refine own_back (X302.laload hx (j := (0 : Int32)) (v := (.long (0 : Int64))) (by rw [e302]; exact Ar303.1) (State.isArrayOf_alike hZ.alike Ar303.2.1) Ar303.2.2 hin303 (Has.at H303 hin303 rfl) (g := (mkF m 48 #[.val (.ref o0), .val (.int (1 : Int32)), .val (.ref o2), .val (.int (0 : Int32))] [(.int (0 : Int32)), (.ref b270), (.int (0 : Int32)), (.ref b270)])) rfl rfl (hb hby own_d9_48)) ?_
  show own_End p e below s _ _ _ (T302.setTop (mkF m 49 #[.val (.ref o0), .val (.int (1 : Int32)), .val (.ref o2), .val (.int (0 : Int32))] [(.long (0 : Int64)), (.int (0 : Int32)), (.ref b270)]))
  refine own_lconst X302 hx (hb hby own_d9_49) (z := 1) rfl (q := 50) rfl ?_
  refine own_iloadN X302 hx (hb hby own_d9_50) rfl (q := 51) rfl ?_
  refine own_lshl X302 hx (hb hby own_d9_51) (q := 52) rfl ?_
  show own_End p e below s _ _ _ (T302.setTop (mkF m 52 #[.val (.ref o0), .val (.int (1 : Int32)), .val (.ref o2), .val (.int (0 : Int32))] [(.long (1 : Int64)), (.long (0 : Int64)), (.int (0 : Int32)), (.ref b270)]))
  refine own_lor X302 hx (hb hby own_d9_52) (q := 53) rfl ?_
  show own_End p e below s _ _ _ (T302.setTop (mkF m 53 #[.val (.ref o0), .val (.int (1 : Int32)), .val (.ref o2), .val (.int (0 : Int32))] [(.long (1 : Int64)), (.int (0 : Int32)), (.ref b270)]))
  obtain ⟨cl304, Ar304, q304, S304, N304v, H304, G304⟩ := id V_b270_299
  have hin304 : ¬ ((0 : Int32) < 0 ∨ cl304.slots.size ≤ ((0 : Int32)).toNatClampNeg) := inb_of S304 ⟨by decide, by decide⟩
  obtain ⟨T304, h304, X304, e304, W304, st304⟩ := stJ X302 hx hZ e302 Ar304 (j := (0 : Int32)) hin304 (g := (mkF m 53 #[.val (.ref o0), .val (.int (1 : Int32)), .val (.ref o2), .val (.int (0 : Int32))] [(.long (1 : Int64)), (.int (0 : Int32)), (.ref b270)])) rfl rfl (hb hby own_d9_53)
  have V_b270_304 : Arv Z h304 b270 k270 .long (1 : Int32) [(.long (1 : Int64))] (.long (0 : Int64)) := Arv.set Ar304 q304 S304 N304v H304 G304 rfl W304 0 rfl (Nat.le_of_ble_eq_true rfl)
  have E_o0_305 := E_o0_295.wr W304
  have F_o0_trail_306 := F_o0_trail_296.other W304 (Or.inl ne_o0_b270)
  have F_o0_words_307 := F_o0_words_297.other W304 (Or.inl ne_o0_b270)
  have F_o0_initialSize_308 := F_o0_initialSize_298.other W304 (Or.inl ne_o0_b270)
  have F_o0_size_309 := F_o0_size_294.other W304 (Or.inl ne_o0_b270)
  have Kp310 : Keep h0 _ [o0] := Kp300.wr W304 (Or.inr sz_b270)
  have Z311 := Nat.le_trans Z301 (Keep.of_wr W304).1
  obtain ⟨L304, X304, N304⟩ := own_gl X304 (Fr.snoc X304 N294 g_b270)
  refine own_back st304 ?_
  show own_End p e below s _ _ _ (T304.setTop (mkF m 54 #[.val (.ref o0), .val (.int (1 : Int32)), .val (.ref o2), .val (.int (0 : Int32))] []))
  refine own_iinc X304 hx (hb hby own_d9_54) rfl (z := 1) rfl (l' := #[.val (.ref o0), .val (.int (1 : Int32)), .val (.ref o2), .val (.int (1 : Int32))]) rfl (q := 57) rfl ?_
  refine own_goto X304 hx (hb hby own_d9_57) (q := 34) (by decide) (by decide) ?_
  refine own_iloadN X304 hx (hb hby own_d9_34) rfl (q := 35) rfl ?_
  refine own_iloadN X304 hx (hb hby own_d9_35) rfl (q := 36) rfl ?_
  refine own_icY X304 hx (hb hby own_d9_36) (flt (by decide : ¬ ((1 : Int32) < (1 : Int32)))).2.1 (q := 60) (by decide) (by decide) ?_
  refine own_retV X304 hx Bd.returns Bd.notSynchronized (by decide) (by decide) (hb hby own_d9_60) ?_
  show own_Q9_1 Z o0 o2 w_o0_trail w_o0_words w_o0_initialSize w_o0_size h0 n0 _ T304.heap _
  rw [e304]
  exact ⟨rfl, N304, Kp310, E_o0_305⟩
def own_Q8_1 (Z : State) (o0 : Addr) (p1 : Int32) (o2 : Addr) (o3 : Addr) (o4 : Addr) (o5 : Addr) (w_o0_constraints : Value) (w_o0_index : Int32) (w_o0_name : Value) (w_o0_values : Value) (w_o0_domain : Value) (w_o0_assignmentListeners : Value) (k_o3 : ClassId) (w_o3_0 : Int32) (sa : Addr) (h0 : Heap) (n0 : Nat) (v : Option Value) (h : Heap) (L : List Loc) : Prop := v = none ∧ Fr n0 L ∧ Keep h0 h [o0] ∧ ∃ (b381 : Addr) (k_o3 : ClassId), h0.size ≤ b381 ∧ Exa Z h o0 "com/example/arcwise/arcwise/network/Variable" ∧ Fld Z h o0 "com/example/arcwise/arcwise/network/Variable" "values" "[I" (.ref b381) ∧ Exa Z h b381 "[I" ∧ Arv Z h b381 k_o3 .int (1 : Int32) [(.int w_o3_0)] (.int (0 : Int32))
theorem own_pn_rm8_1 : plainName "com/example/arcwise/arcwise/network/Variable" = true := by first | (simp [plainName, overriddenIn]; done) | decide +kernel
theorem own_ef_rm8_1 (m : MethodId) (o0 : Addr) (p1 : Int32) (o2 : Addr) (o3 : Addr) (o4 : Addr) (o5 : Addr) : entryFrame m #[(.ref o0), (.int p1), (.ref o2), (.ref o3), (.ref o4), (.ref o5)] 6 = mkF m 0 #[.val (.ref o0), .val (.int p1), .val (.ref o2), .val (.ref o3), .val (.ref o4), .val (.ref o5)] [] := by first | (simp [entryFrame, mkF, argsToLocals, Value.category]; done) | rfl
set_option maxRecDepth 65536 in
set_option maxHeartbeats 40000000 in
theorem own_rm8_1 (l : Launch) (Z : State) (a0 : Array Value) (hw : ∀ d ∈ tables_1, d.before a0 Z = true) (ws : List Jvm.Cond) (o0 : Addr) (p1 : Int32) (o2 : Addr) (o3 : Addr) (o4 : Addr) (o5 : Addr) (w_o0_constraints : Value) (w_o0_index : Int32) (w_o0_name : Value) (w_o0_values : Value) (w_o0_domain : Value) (w_o0_assignmentListeners : Value) (k_o3 : ClassId) (w_o3_0 : Int32) (sa : Addr) (h0 : Heap) (n0 : Nat) (Z0 : n0 ≤ h0.size) (E_o0 : Exa Z h0 o0 "com/example/arcwise/arcwise/network/Variable") (F_o0_constraints : Fld Z h0 o0 "com/example/arcwise/arcwise/network/Variable" "constraints" "Ljava/util/List;" w_o0_constraints) (F_o0_index : Fld Z h0 o0 "com/example/arcwise/arcwise/network/Variable" "index" "I" (.int w_o0_index)) (F_o0_name : Fld Z h0 o0 "com/example/arcwise/arcwise/network/Variable" "name" "Ljava/lang/String;" w_o0_name) (F_o0_values : Fld Z h0 o0 "com/example/arcwise/arcwise/network/Variable" "values" "[I" w_o0_values) (F_o0_domain : Fld Z h0 o0 "com/example/arcwise/arcwise/network/Variable" "domain" "Lcom/example/arcwise/arcwise/network/Domain;" w_o0_domain) (F_o0_assignmentListeners : Fld Z h0 o0 "com/example/arcwise/arcwise/network/Variable" "assignmentListeners" "Ljava/util/List;" w_o0_assignmentListeners) (V_o3 : Arv Z h0 o3 k_o3 .int (1 : Int32) [(.int w_o3_0)] (.int (0 : Int32))) (E_o3 : Exa Z h0 o3 "[I") (ne_o0_o3 : o0 ≠ o3) (S_dc : Sta Z h0 "java/util/ArrayList" "DEFAULTCAPACITY_EMPTY_ELEMENTDATA" "[Ljava/lang/Object;" (.ref sa)) (g_o0 : n0 ≤ o0) :
    MetFree l (⟨"com/example/arcwise/arcwise/network/Variable", "<init>", "(ILjava/lang/String;[ILcom/example/arcwise/arcwise/network/Trail;Ljava/util/List;)V"⟩ : MethodName) (head1 (Jvm.Cond.code (⟨"com/example/arcwise/arcwise/network/Variable", "<init>", "(ILjava/lang/String;[ILcom/example/arcwise/arcwise/network/Trail;Ljava/util/List;)V"⟩ : MethodName) prog_62_method_1_code 6 none :: ws) ({ frames := 4, cells := 4, slots := 10, locals := 50 } : Room)) (fun a U => a = #[(.ref o0), (.int p1), (.ref o2), (.ref o3), (.ref o4), (.ref o5)] ∧ Z.Warmed39 U.vm ∧ U.heap = h0) (fun _ _ _ _ _ => True) (fun _ U o U' => ∃ v L, o = .returned v ∧ own_Q8_1 Z o0 p1 o2 o3 o4 o5 w_o0_constraints w_o0_index w_o0_name w_o0_values w_o0_domain w_o0_assignmentListeners k_o3 w_o3_0 sa h0 n0 v U'.heap L ∧ FrameEnd U o U' L ({ frames := 4, cells := 4, slots := 10, locals := 50 } : Room).cells ({ frames := 4, cells := 4, slots := 10, locals := 50 } : Room).slots) := by
  refine MetFree.of_bodySF (plainFor_of_name own_pn_rm8_1) hisR ?_
  intro p e s m args below meth c s₁ Bd hml0 hP hK
  obtain ⟨rfl, hZ, hh⟩ := hP
  have hx := Bd.exec
  have hby := Bd.bytes
  have hml : c.maxLocals = 6 := hml0
  have hown : s.vm.findClass "com/example/arcwise/arcwise/network/Variable" = some m.cls := findClass_of_methodNamed Bd.named
  have hnm := (name_of_methodNamed Bd.named Bd.method).1
  have X0 : Stand p l e ({ frames := 4, cells := 4, slots := 10, locals := 50 } : Room) s m #[(.ref o0), (.int p1), (.ref o2), (.ref o3), (.ref o4), (.ref o5)] below meth c s₁ [] 0 0 := Stand.of_body Bd
  have e0 : s₁.heap = h0 := by rw [← hh, Bd.state]; rfl
  have N0 := Fr.nil n0
  show own_End p e below s (own_Q8_1 Z o0 p1 o2 o3 o4 o5 w_o0_constraints w_o0_index w_o0_name w_o0_values w_o0_domain w_o0_assignmentListeners k_o3 w_o3_0 sa h0 n0) ({ frames := 4, cells := 4, slots := 10, locals := 50 } : Room).cells ({ frames := 4, cells := 4, slots := 10, locals := 50 } : Room).slots (s₁.setTop (entryFrame m #[(.ref o0), (.int p1), (.ref o2), (.ref o3), (.ref o4), (.ref o5)] 6))
  rw [own_ef_rm8_1]
  refine own_aloadN X0 hx (hb hby own_d8_0) rfl rfl (q := 1) rfl ?_
  obtain ⟨T313, X313, e313, st313⟩ := initO X0 hx hZ hown (hw _ (List.mem_of_getElem? (i := 61) rfl)) (hw _ (List.mem_of_getElem? (i := 26) rfl)) (hw _ (List.mem_of_getElem? (i := 27) rfl)) e0 (g := (mkF m 1 #[.val (.ref o0), .val (.int p1), .val (.ref o2), .val (.ref o3), .val (.ref o4), .val (.ref o5)] [(.ref o0)])) rfl (by rw [hml]; rfl) rfl (hb hby own_d8_1) (by decide) (W := 0) (by show 2 * 0 + _ ≤ _; exact Nat.le_of_eq rfl) (by decide)
  refine own_back st313 ?_
  show own_End p e below s _ _ _ (T313.setTop (mkF m 4 #[.val (.ref o0), .val (.int p1), .val (.ref o2), .val (.ref o3), .val (.ref o4), .val (.ref o5)] []))
  refine own_aloadN X313 hx (hb hby own_d8_4) rfl rfl (q := 5) rfl ?_
  obtain ⟨T314, h314, X314, e314, E314, A314, D314, -, st314⟩ := newO X313 hx hZ hown (hw _ (List.mem_of_getElem? (i := 62) rfl)) (hw _ (List.mem_of_getElem? (i := 35) rfl)) (hw _ (List.mem_of_getElem? (i := 36) rfl)) e313 (g := (mkF m 5 #[.val (.ref o0), .val (.int p1), .val (.ref o2), .val (.ref o3), .val (.ref o4), .val (.ref o5)] [(.ref o0)])) rfl (hb hby own_d8_5) (by decide) (by decide)
  obtain ⟨b314, g314⟩ : ∃ z, z = h0.size := ⟨_, rfl⟩
  have ne_o0_b314 : o0 ≠ b314 := Nat.ne_of_lt (Nat.lt_of_lt_of_le E_o0.lt (Nat.le_of_eq g314.symm))
  have ne_o3_b314 : o3 ≠ b314 := Nat.ne_of_lt (Nat.lt_of_lt_of_le V_o3.lt (Nat.le_of_eq g314.symm))
  have g_b314 : n0 ≤ b314 := Nat.le_trans Z0 (Nat.le_of_eq g314.symm)
  have sz_b314 : h0.size ≤ b314 := Nat.le_trans (Keep.refl h0 [o0]).1 (Nat.le_of_eq g314.symm)
  have Z315 := Nat.le_trans Z0 E314.1
  rw [← g314] at A314 D314 st314
  have S_dc_316 := S_dc.ext E314
  have E_o0_317 := E_o0.ext E314
  have F_o0_constraints_318 := F_o0_constraints.ext E314
  have F_o0_index_319 := F_o0_index.ext E314
  have F_o0_name_320 := F_o0_name.ext E314
  have F_o0_values_321 := F_o0_values.ext E314
  have F_o0_domain_322 := F_o0_domain.ext E314
  have F_o0_assignmentListeners_323 := F_o0_assignmentListeners.ext E314
  have V_o3_324 := V_o3.ext E314
  have E_o3_325 := E_o3.ext E314
  have Kp326 : Keep h0 _ [o0] := (Keep.refl h0 [o0]).ext E314
  have F_b314_modCount : Fld Z h314 b314 "java/util/AbstractList" "modCount" "I" (.int (0 : Int32)) := D314 (Or.inl (hw _ (List.mem_of_getElem? (i := 54) rfl))) (ty := .int) (by decide)
  have F_b314_elementData : Fld Z h314 b314 "java/util/ArrayList" "elementData" "[Ljava/lang/Object;" .null := D314 (Or.inl (hw _ (List.mem_of_getElem? (i := 57) rfl))) (ty := (.array (.object "java/lang/Object"))) (by decide)
  refine own_back st314 ?_
  show own_End p e below s _ _ _ (T314.setTop (mkF m 8 #[.val (.ref o0), .val (.int p1), .val (.ref o2), .val (.ref o3), .val (.ref o4), .val (.ref o5)] [(.ref b314), (.ref o0)]))
  refine own_dup X314 hx (hb hby own_d8_8) rfl (q := 9) rfl ?_
  obtain ⟨T327, Lc327, L327, X327, N327, hQ327, st327⟩ := own_shutV (val := none) (Q := own_Q5 Z b314 (0 : Int32) .null sa h314 n0) (rc := 0) (rs := 0) N0 (fun _ _ _ q => ⟨q.1, q.2.1⟩) (X314.specialBack hx (y := (⟨"java/util/ArrayList", "<init>", "()V"⟩ : MethodName)) rfl hown (mvT hZ (hw _ (List.mem_of_getElem? (i := 63) rfl))) (mvT hZ (hw _ (List.mem_of_getElem? (i := 38) rfl))) (mvT hZ (hw _ (List.mem_of_getElem? (i := 39) rfl))) (by decide) (backOf (W := 2) (own_rm5 l Z a0 hw [] b314 (0 : Int32) .null sa h314 n0 Z315 A314 F_b314_modCount F_b314_elementData S_dc_316 g_b314) hZ (hw _ (List.mem_of_getElem? (i := 39) rfl)) (hw _ (List.mem_of_getElem? (i := 36) rfl)) (by decide) (by decide)) (g := (mkF m 9 #[.val (.ref o0), .val (.int p1), .val (.ref o2), .val (.ref o3), .val (.ref o4), .val (.ref o5)] [(.ref b314), (.ref b314), (.ref o0)])) rfl (by rw [hml]; rfl) (Steps.refl _) (a := b314) (argsL := []) (rest := [(.ref b314), (.ref o0)]) (lenOf own_pd0 rfl) rfl (by show 2 * 0 + _ ≤ _; exact Nat.le_of_eq rfl) (hb hby own_d8_9) (fun _ _ => ⟨rfl, e314, (by decide : 1 + 0 ≤ _), (by decide : 3 + 0 ≤ _)⟩))
  obtain ⟨-, -, K327, Q327_0⟩ := hQ327
  have S_dc_328 := own_StaK S_dc_316 K327 (allS (P := fun o => ∃ C, Exa Z _ o C) ⟨_, A314⟩ all0)
  have E_o0_329 := E_o0_317.keep K327
  have F_o0_constraints_330 := F_o0_constraints_318.keep K327 (ninS ne_o0_b314 nin0)
  have F_o0_index_331 := F_o0_index_319.keep K327 (ninS ne_o0_b314 nin0)
  have F_o0_name_332 := F_o0_name_320.keep K327 (ninS ne_o0_b314 nin0)
  have F_o0_values_333 := F_o0_values_321.keep K327 (ninS ne_o0_b314 nin0)
  have F_o0_domain_334 := F_o0_domain_322.keep K327 (ninS ne_o0_b314 nin0)
  have F_o0_assignmentListeners_335 := F_o0_assignmentListeners_323.keep K327 (ninS ne_o0_b314 nin0)
  have V_o3_336 := V_o3_324.keep K327 (ninS ne_o3_b314 nin0)
  have E_o3_337 := E_o3_325.keep K327
  have A314_338 := A314.keep K327
  have Kp339 : Keep h0 _ [o0] := Kp326.trans K327 (allS (Or.inr sz_b314) all0)
  have Z340 := Nat.le_trans Z315 K327.1
  refine own_via st327 ?_
  show own_End p e below s _ _ _ (T327.setTop (mkF m 12 #[.val (.ref o0), .val (.int p1), .val (.ref o2), .val (.ref o3), .val (.ref o4), .val (.ref o5)] [(.ref b314), (.ref o0)]))
  obtain ⟨T341, h341, X341, e341, W341, st341⟩ := putF X327 hx hZ hown (host := "") (Or.inl (hw _ (List.mem_of_getElem? (i := 64) rfl))) Via.refl rfl F_o0_constraints_330 E_o0_329 (Or.inr ⟨(hw _ (List.mem_of_getElem? (i := 65) rfl)), rfl, hnm⟩) (hw _ (List.mem_of_getElem? (i := 9) rfl)) (ty := (.object "java/util/List")) (by decide) rfl rfl (g := (mkF m 12 #[.val (.ref o0), .val (.int p1), .val (.ref o2), .val (.ref o3), .val (.ref o4), .val (.ref o5)] [(.ref b314), (.ref o0)])) rfl rfl (hb hby own_d8_12)
  have F_o0_constraints_341 := F_o0_constraints_330.same W341
  have S_dc_342 := S_dc_328.wr W341
  have E_o0_343 := E_o0_329.wr W341
  have F_o0_index_344 := F_o0_index_331.other W341 (Or.inr (slot_ne (Or.inr (hw _ (List.mem_of_getElem? (i := 67) rfl))) (Or.inr (hw _ (List.mem_of_getElem? (i := 65) rfl))) (by decide) (t := .int) (t' := (.object "java/util/List")) (by decide) (by decide)))
  have F_o0_name_345 := F_o0_name_332.other W341 (Or.inr (slot_ne (Or.inr (hw _ (List.mem_of_getElem? (i := 69) rfl))) (Or.inr (hw _ (List.mem_of_getElem? (i := 65) rfl))) (by decide) (t := (.object "java/lang/String")) (t' := (.object "java/util/List")) (by decide) (by decide)))
  have F_o0_values_346 := F_o0_values_333.other W341 (Or.inr (slot_ne (Or.inr (hw _ (List.mem_of_getElem? (i := 80) rfl))) (Or.inr (hw _ (List.mem_of_getElem? (i := 65) rfl))) (by decide) (t := (.array .int)) (t' := (.object "java/util/List")) (by decide) (by decide)))
  have F_o0_domain_347 := F_o0_domain_334.other W341 (Or.inr (slot_ne (Or.inr (hw _ (List.mem_of_getElem? (i := 98) rfl))) (Or.inr (hw _ (List.mem_of_getElem? (i := 65) rfl))) (by decide) (t := (.object "com/example/arcwise/arcwise/network/Domain")) (t' := (.object "java/util/List")) (by decide) (by decide)))
  have F_o0_assignmentListeners_348 := F_o0_assignmentListeners_335.other W341 (Or.inr (slot_ne (Or.inr (hw _ (List.mem_of_getElem? (i := 100) rfl))) (Or.inr (hw _ (List.mem_of_getElem? (i := 65) rfl))) (by decide) (t := (.object "java/util/List")) (t' := (.object "java/util/List")) (by decide) (by decide)))
  have V_o3_349 := V_o3_336.other W341 (Ne.symm ne_o0_o3)
  have E_o3_350 := E_o3_337.wr W341
  have Q327_351 := Q327_0.wr W341
  have Kp352 : Keep h0 _ [o0] := Kp339.wr W341 (Or.inl (List.mem_of_getElem? (i := 0) rfl))
  have Z353 := Nat.le_trans Z340 (Keep.of_wr W341).1
  obtain ⟨L341, X341, N341⟩ := own_gl X341 (Fr.snoc X341 N327 g_o0)
  refine own_back st341 ?_
  show own_End p e below s _ _ _ (T341.setTop (mkF m 15 #[.val (.ref o0), .val (.int p1), .val (.ref o2), .val (.ref o3), .val (.ref o4), .val (.ref o5)] []))
  refine own_aloadN X341 hx (hb hby own_d8_15) rfl rfl (q := 16) rfl ?_
  refine own_iloadN X341 hx (hb hby own_d8_16) rfl (q := 17) rfl ?_
  obtain ⟨T354, h354, X354, e354, W354, st354⟩ := putF X341 hx hZ hown (host := "") (Or.inl (hw _ (List.mem_of_getElem? (i := 66) rfl))) Via.refl e341 F_o0_index_344 E_o0_343 (Or.inr ⟨(hw _ (List.mem_of_getElem? (i := 67) rfl)), rfl, hnm⟩) (hw _ (List.mem_of_getElem? (i := 9) rfl)) (ty := .int) (by decide) rfl rfl (g := (mkF m 17 #[.val (.ref o0), .val (.int p1), .val (.ref o2), .val (.ref o3), .val (.ref o4), .val (.ref o5)] [(.int p1), (.ref o0)])) rfl rfl (hb hby own_d8_17)
  have F_o0_index_354 := F_o0_index_344.same W354
  have S_dc_355 := S_dc_342.wr W354
  have E_o0_356 := E_o0_343.wr W354
  have F_o0_constraints_357 := F_o0_constraints_341.other W354 (Or.inr (slot_ne (Or.inr (hw _ (List.mem_of_getElem? (i := 65) rfl))) (Or.inr (hw _ (List.mem_of_getElem? (i := 67) rfl))) (by decide) (t := (.object "java/util/List")) (t' := .int) (by decide) (by decide)))
  have F_o0_name_358 := F_o0_name_345.other W354 (Or.inr (slot_ne (Or.inr (hw _ (List.mem_of_getElem? (i := 69) rfl))) (Or.inr (hw _ (List.mem_of_getElem? (i := 67) rfl))) (by decide) (t := (.object "java/lang/String")) (t' := .int) (by decide) (by decide)))
  have F_o0_values_359 := F_o0_values_346.other W354 (Or.inr (slot_ne (Or.inr (hw _ (List.mem_of_getElem? (i := 80) rfl))) (Or.inr (hw _ (List.mem_of_getElem? (i := 67) rfl))) (by decide) (t := (.array .int)) (t' := .int) (by decide) (by decide)))
  have F_o0_domain_360 := F_o0_domain_347.other W354 (Or.inr (slot_ne (Or.inr (hw _ (List.mem_of_getElem? (i := 98) rfl))) (Or.inr (hw _ (List.mem_of_getElem? (i := 67) rfl))) (by decide) (t := (.object "com/example/arcwise/arcwise/network/Domain")) (t' := .int) (by decide) (by decide)))
  have F_o0_assignmentListeners_361 := F_o0_assignmentListeners_348.other W354 (Or.inr (slot_ne (Or.inr (hw _ (List.mem_of_getElem? (i := 100) rfl))) (Or.inr (hw _ (List.mem_of_getElem? (i := 67) rfl))) (by decide) (t := (.object "java/util/List")) (t' := .int) (by decide) (by decide)))
  have V_o3_362 := V_o3_349.other W354 (Ne.symm ne_o0_o3)
  have E_o3_363 := E_o3_350.wr W354
  have Q327_364 := Q327_351.wr W354
  have Kp365 : Keep h0 _ [o0] := Kp352.wr W354 (Or.inl (List.mem_of_getElem? (i := 0) rfl))
  have Z366 := Nat.le_trans Z353 (Keep.of_wr W354).1
  obtain ⟨L354, X354, N354⟩ := own_gl X354 (Fr.snoc X354 N341 g_o0)
  refine own_back st354 ?_
  show own_End p e below s _ _ _ (T354.setTop (mkF m 20 #[.val (.ref o0), .val (.int p1), .val (.ref o2), .val (.ref o3), .val (.ref o4), .val (.ref o5)] []))
  refine own_aloadN X354 hx (hb hby own_d8_20) rfl rfl (q := 21) rfl ?_
  refine own_aloadN X354 hx (hb hby own_d8_21) rfl rfl (q := 22) rfl ?_
  obtain ⟨T367, h367, X367, e367, W367, st367⟩ := putF X354 hx hZ hown (host := "") (Or.inl (hw _ (List.mem_of_getElem? (i := 68) rfl))) Via.refl e354 F_o0_name_358 E_o0_356 (Or.inr ⟨(hw _ (List.mem_of_getElem? (i := 69) rfl)), rfl, hnm⟩) (hw _ (List.mem_of_getElem? (i := 9) rfl)) (ty := (.object "java/lang/String")) (by decide) rfl rfl (g := (mkF m 22 #[.val (.ref o0), .val (.int p1), .val (.ref o2), .val (.ref o3), .val (.ref o4), .val (.ref o5)] [(.ref o2), (.ref o0)])) rfl rfl (hb hby own_d8_22)
  have F_o0_name_367 := F_o0_name_358.same W367
  have S_dc_368 := S_dc_355.wr W367
  have E_o0_369 := E_o0_356.wr W367
  have F_o0_constraints_370 := F_o0_constraints_357.other W367 (Or.inr (slot_ne (Or.inr (hw _ (List.mem_of_getElem? (i := 65) rfl))) (Or.inr (hw _ (List.mem_of_getElem? (i := 69) rfl))) (by decide) (t := (.object "java/util/List")) (t' := (.object "java/lang/String")) (by decide) (by decide)))
  have F_o0_index_371 := F_o0_index_354.other W367 (Or.inr (slot_ne (Or.inr (hw _ (List.mem_of_getElem? (i := 67) rfl))) (Or.inr (hw _ (List.mem_of_getElem? (i := 69) rfl))) (by decide) (t := .int) (t' := (.object "java/lang/String")) (by decide) (by decide)))
  have F_o0_values_372 := F_o0_values_359.other W367 (Or.inr (slot_ne (Or.inr (hw _ (List.mem_of_getElem? (i := 80) rfl))) (Or.inr (hw _ (List.mem_of_getElem? (i := 69) rfl))) (by decide) (t := (.array .int)) (t' := (.object "java/lang/String")) (by decide) (by decide)))
  have F_o0_domain_373 := F_o0_domain_360.other W367 (Or.inr (slot_ne (Or.inr (hw _ (List.mem_of_getElem? (i := 98) rfl))) (Or.inr (hw _ (List.mem_of_getElem? (i := 69) rfl))) (by decide) (t := (.object "com/example/arcwise/arcwise/network/Domain")) (t' := (.object "java/lang/String")) (by decide) (by decide)))
  have F_o0_assignmentListeners_374 := F_o0_assignmentListeners_361.other W367 (Or.inr (slot_ne (Or.inr (hw _ (List.mem_of_getElem? (i := 100) rfl))) (Or.inr (hw _ (List.mem_of_getElem? (i := 69) rfl))) (by decide) (t := (.object "java/util/List")) (t' := (.object "java/lang/String")) (by decide) (by decide)))
  have V_o3_375 := V_o3_362.other W367 (Ne.symm ne_o0_o3)
  have E_o3_376 := E_o3_363.wr W367
  have Q327_377 := Q327_364.wr W367
  have Kp378 : Keep h0 _ [o0] := Kp365.wr W367 (Or.inl (List.mem_of_getElem? (i := 0) rfl))
  have Z379 := Nat.le_trans Z366 (Keep.of_wr W367).1
  obtain ⟨L367, X367, N367⟩ := own_gl X367 (Fr.snoc X367 N354 g_o0)
  refine own_back st367 ?_
  show own_End p e below s _ _ _ (T367.setTop (mkF m 25 #[.val (.ref o0), .val (.int p1), .val (.ref o2), .val (.ref o3), .val (.ref o4), .val (.ref o5)] []))
  refine own_aloadN X367 hx (hb hby own_d8_25) rfl rfl (q := 26) rfl ?_
  refine own_aloadN X367 hx (hb hby own_d8_26) rfl rfl (q := 27) rfl ?_
  obtain ⟨T381, h381, X381, e381, E381, A381, Ex381, st381⟩ := cloneH X367 hx hZ hown (hw _ (List.mem_of_getElem? (i := 70) rfl)) (hw _ (List.mem_of_getElem? (i := 71) rfl)) (hw _ (List.mem_of_getElem? (i := 75) rfl)) (hw _ (List.mem_of_getElem? (i := 73) rfl)) (hw _ (List.mem_of_getElem? (i := 74) rfl)) (hw _ (List.mem_of_getElem? (i := 76) rfl)) e367 (Arv.arh V_o3_375) E_o3_376 (g := (mkF m 27 #[.val (.ref o0), .val (.int p1), .val (.ref o2), .val (.ref o3), .val (.ref o4), .val (.ref o5)] [(.ref o3), (.ref o0)])) rfl (by rw [hml]; rfl) rfl (hb hby own_d8_27) (by decide) (W := 1) (cap := 1) (by show 2 * 0 + _ ≤ _; exact Nat.le_of_eq rfl) (by decide) (by decide) (by decide) (by decide)
  obtain ⟨b381, g381⟩ : ∃ z, z = h367.size := ⟨_, rfl⟩
  have ne_o0_b381 : o0 ≠ b381 := Nat.ne_of_lt (Nat.lt_of_lt_of_le E_o0_369.lt (Nat.le_of_eq g381.symm))
  have ne_o3_b381 : o3 ≠ b381 := Nat.ne_of_lt (Nat.lt_of_lt_of_le V_o3_375.lt (Nat.le_of_eq g381.symm))
  have ne_b314_b381 : b314 ≠ b381 := Nat.ne_of_lt (Nat.lt_of_lt_of_le Q327_377.lt (Nat.le_of_eq g381.symm))
  have g_b381 : n0 ≤ b381 := Nat.le_trans Z379 (Nat.le_of_eq g381.symm)
  have sz_b381 : h0.size ≤ b381 := Nat.le_trans Kp378.1 (Nat.le_of_eq g381.symm)
  have Z382 := Nat.le_trans Z379 E381.1
  rw [← g381] at A381 Ex381 st381
  have S_dc_383 := S_dc_368.ext E381
  have E_o0_384 := E_o0_369.ext E381
  have F_o0_constraints_385 := F_o0_constraints_370.ext E381
  have F_o0_index_386 := F_o0_index_371.ext E381
  have F_o0_name_387 := F_o0_name_367.ext E381
  have F_o0_values_388 := F_o0_values_372.ext E381
  have F_o0_domain_389 := F_o0_domain_373.ext E381
  have F_o0_assignmentListeners_390 := F_o0_assignmentListeners_374.ext E381
  have V_o3_391 := V_o3_375.ext E381
  have E_o3_392 := E_o3_376.ext E381
  have Q327_393 := Q327_377.ext E381
  have Kp394 : Keep h0 _ [o0] := Kp378.ext E381
  have V_b381 : Arv Z h381 b381 k_o3 .int (1 : Int32) [(.int w_o3_0)] (.int (0 : Int32)) := A381
  refine own_back st381 ?_
  show own_End p e below s _ _ _ (T381.setTop (mkF m 30 #[.val (.ref o0), .val (.int p1), .val (.ref o2), .val (.ref o3), .val (.ref o4), .val (.ref o5)] [(.ref b381), (.ref o0)]))
  obtain ⟨T395, X395, e395, st395⟩ := castY X381 hx hZ hown (hw _ (List.mem_of_getElem? (i := 77) rfl)) e381 (Ins.self Ex381) (g := (mkF m 30 #[.val (.ref o0), .val (.int p1), .val (.ref o2), .val (.ref o3), .val (.ref o4), .val (.ref o5)] [(.ref b381), (.ref o0)])) rfl rfl (hb hby own_d8_30)
  refine own_back st395 ?_
  show own_End p e below s _ _ _ (T395.setTop (mkF m 33 #[.val (.ref o0), .val (.int p1), .val (.ref o2), .val (.ref o3), .val (.ref o4), .val (.ref o5)] [(.ref b381), (.ref o0)]))
  obtain ⟨T396, h396, X396, e396, W396, st396⟩ := putF X395 hx hZ hown (host := "") (Or.inl (hw _ (List.mem_of_getElem? (i := 79) rfl))) Via.refl e395 F_o0_values_388 E_o0_384 (Or.inr ⟨(hw _ (List.mem_of_getElem? (i := 80) rfl)), rfl, hnm⟩) (hw _ (List.mem_of_getElem? (i := 9) rfl)) (ty := (.array .int)) (by decide) rfl rfl (g := (mkF m 33 #[.val (.ref o0), .val (.int p1), .val (.ref o2), .val (.ref o3), .val (.ref o4), .val (.ref o5)] [(.ref b381), (.ref o0)])) rfl rfl (hb hby own_d8_33)
  have F_o0_values_396 := F_o0_values_388.same W396
  have S_dc_397 := S_dc_383.wr W396
  have E_o0_398 := E_o0_384.wr W396
  have F_o0_constraints_399 := F_o0_constraints_385.other W396 (Or.inr (slot_ne (Or.inr (hw _ (List.mem_of_getElem? (i := 65) rfl))) (Or.inr (hw _ (List.mem_of_getElem? (i := 80) rfl))) (by decide) (t := (.object "java/util/List")) (t' := (.array .int)) (by decide) (by decide)))
  have F_o0_index_400 := F_o0_index_386.other W396 (Or.inr (slot_ne (Or.inr (hw _ (List.mem_of_getElem? (i := 67) rfl))) (Or.inr (hw _ (List.mem_of_getElem? (i := 80) rfl))) (by decide) (t := .int) (t' := (.array .int)) (by decide) (by decide)))
  have F_o0_name_401 := F_o0_name_387.other W396 (Or.inr (slot_ne (Or.inr (hw _ (List.mem_of_getElem? (i := 69) rfl))) (Or.inr (hw _ (List.mem_of_getElem? (i := 80) rfl))) (by decide) (t := (.object "java/lang/String")) (t' := (.array .int)) (by decide) (by decide)))
  have F_o0_domain_402 := F_o0_domain_389.other W396 (Or.inr (slot_ne (Or.inr (hw _ (List.mem_of_getElem? (i := 98) rfl))) (Or.inr (hw _ (List.mem_of_getElem? (i := 80) rfl))) (by decide) (t := (.object "com/example/arcwise/arcwise/network/Domain")) (t' := (.array .int)) (by decide) (by decide)))
  have F_o0_assignmentListeners_403 := F_o0_assignmentListeners_390.other W396 (Or.inr (slot_ne (Or.inr (hw _ (List.mem_of_getElem? (i := 100) rfl))) (Or.inr (hw _ (List.mem_of_getElem? (i := 80) rfl))) (by decide) (t := (.object "java/util/List")) (t' := (.array .int)) (by decide) (by decide)))
  have V_o3_404 := V_o3_391.other W396 (Ne.symm ne_o0_o3)
  have E_o3_405 := E_o3_392.wr W396
  have Q327_406 := Q327_393.wr W396
  have V_b381_407 := V_b381.other W396 (Ne.symm ne_o0_b381)
  have Ex381_408 := Ex381.wr W396
  have Kp409 : Keep h0 _ [o0] := Kp394.wr W396 (Or.inl (List.mem_of_getElem? (i := 0) rfl))
  have Z410 := Nat.le_trans Z382 (Keep.of_wr W396).1
  obtain ⟨L396, X396, N396⟩ := own_gl X396 (Fr.snoc X396 N367 g_o0)
  refine own_back st396 ?_
  show own_End p e below s _ _ _ (T396.setTop (mkF m 36 #[.val (.ref o0), .val (.int p1), .val (.ref o2), .val (.ref o3), .val (.ref o4), .val (.ref o5)] []))
  refine own_aloadN X396 hx (hb hby own_d8_36) rfl rfl (q := 37) rfl ?_
  obtain ⟨T411, h411, X411, e411, E411, A411, D411, -, st411⟩ := newO X396 hx hZ hown (hw _ (List.mem_of_getElem? (i := 81) rfl)) (hw _ (List.mem_of_getElem? (i := 82) rfl)) (hw _ (List.mem_of_getElem? (i := 83) rfl)) e396 (g := (mkF m 37 #[.val (.ref o0), .val (.int p1), .val (.ref o2), .val (.ref o3), .val (.ref o4), .val (.ref o5)] [(.ref o0)])) rfl (hb hby own_d8_37) (by decide) (by decide)
  obtain ⟨b411, g411⟩ : ∃ z, z = h396.size := ⟨_, rfl⟩
  have ne_o0_b411 : o0 ≠ b411 := Nat.ne_of_lt (Nat.lt_of_lt_of_le E_o0_398.lt (Nat.le_of_eq g411.symm))
  have ne_o3_b411 : o3 ≠ b411 := Nat.ne_of_lt (Nat.lt_of_lt_of_le V_o3_404.lt (Nat.le_of_eq g411.symm))
  have ne_b314_b411 : b314 ≠ b411 := Nat.ne_of_lt (Nat.lt_of_lt_of_le Q327_406.lt (Nat.le_of_eq g411.symm))
  have ne_b381_b411 : b381 ≠ b411 := Nat.ne_of_lt (Nat.lt_of_lt_of_le V_b381_407.lt (Nat.le_of_eq g411.symm))
  have g_b411 : n0 ≤ b411 := Nat.le_trans Z410 (Nat.le_of_eq g411.symm)
  have sz_b411 : h0.size ≤ b411 := Nat.le_trans Kp409.1 (Nat.le_of_eq g411.symm)
  have Z412 := Nat.le_trans Z410 E411.1
  rw [← g411] at A411 D411 st411
  have S_dc_413 := S_dc_397.ext E411
  have E_o0_414 := E_o0_398.ext E411
  have F_o0_constraints_415 := F_o0_constraints_399.ext E411
  have F_o0_index_416 := F_o0_index_400.ext E411
  have F_o0_name_417 := F_o0_name_401.ext E411
  have F_o0_values_418 := F_o0_values_396.ext E411
  have F_o0_domain_419 := F_o0_domain_402.ext E411
  have F_o0_assignmentListeners_420 := F_o0_assignmentListeners_403.ext E411
  have V_o3_421 := V_o3_404.ext E411
  have E_o3_422 := E_o3_405.ext E411
  have Q327_423 := Q327_406.ext E411
  have V_b381_424 := V_b381_407.ext E411
  have Ex381_425 := Ex381_408.ext E411
  have Kp426 : Keep h0 _ [o0] := Kp409.ext E411
  have F_b411_trail : Fld Z h411 b411 "com/example/arcwise/arcwise/network/Domain" "trail" "Lcom/example/arcwise/arcwise/network/Trail;" .null := D411 (Or.inr (hw _ (List.mem_of_getElem? (i := 89) rfl))) (ty := (.object "com/example/arcwise/arcwise/network/Trail")) (by decide)
  have F_b411_words : Fld Z h411 b411 "com/example/arcwise/arcwise/network/Domain" "words" "[J" .null := D411 (Or.inr (hw _ (List.mem_of_getElem? (i := 92) rfl))) (ty := (.array .long)) (by decide)
  have F_b411_initialSize : Fld Z h411 b411 "com/example/arcwise/arcwise/network/Domain" "initialSize" "I" (.int (0 : Int32)) := D411 (Or.inr (hw _ (List.mem_of_getElem? (i := 94) rfl))) (ty := .int) (by decide)
  have F_b411_size : Fld Z h411 b411 "com/example/arcwise/arcwise/network/Domain" "size" "I" (.int (0 : Int32)) := D411 (Or.inl (hw _ (List.mem_of_getElem? (i := 96) rfl))) (ty := .int) (by decide)
  refine own_back st411 ?_
  show own_End p e below s _ _ _ (T411.setTop (mkF m 40 #[.val (.ref o0), .val (.int p1), .val (.ref o2), .val (.ref o3), .val (.ref o4), .val (.ref o5)] [(.ref b411), (.ref o0)]))
  refine own_dup X411 hx (hb hby own_d8_40) rfl (q := 41) rfl ?_
  refine own_aloadN X411 hx (hb hby own_d8_41) rfl rfl (q := 42) rfl ?_
  obtain ⟨cl427, Ar427, q427, S427, N427v, H427, G427⟩ := id V_o3_421
  refine own_back (X411.arraylength hx (by rw [e411]; exact Ar427.1) (State.isArrayOf_alike hZ.alike Ar427.2.1) (g := (mkF m 42 #[.val (.ref o0), .val (.int p1), .val (.ref o2), .val (.ref o3), .val (.ref o4), .val (.ref o5)] [(.ref o3), (.ref b411), (.ref b411), (.ref o0)])) rfl rfl (hb hby own_d8_42)) ?_
  rw [len_of S427 N427v]
  show own_End p e below s _ _ _ (T411.setTop (mkF m 43 #[.val (.ref o0), .val (.int p1), .val (.ref o2), .val (.ref o3), .val (.ref o4), .val (.ref o5)] [(.int (1 : Int32)), (.ref b411), (.ref b411), (.ref o0)]))
  refine own_aload X411 hx (hb hby own_d8_43) rfl rfl (q := 45) rfl ?_
  obtain ⟨T428, Lc428, L428, X428, N428, hQ428, st428⟩ := own_shutV (val := none) (Q := own_Q9_1 Z b411 o4 .null .null (0 : Int32) (0 : Int32) h411 n0) (rc := 1) (rs := 1) N396 (fun _ _ _ q => ⟨q.1, q.2.1⟩) (X411.specialBack hx (y := (⟨"com/example/arcwise/arcwise/network/Domain", "<init>", "(ILcom/example/arcwise/arcwise/network/Trail;)V"⟩ : MethodName)) rfl hown (mvT hZ (hw _ (List.mem_of_getElem? (i := 84) rfl))) (mvT hZ (hw _ (List.mem_of_getElem? (i := 85) rfl))) (mvT hZ (hw _ (List.mem_of_getElem? (i := 86) rfl))) (by decide) (backOf (W := 2) (own_rm9_1 l Z a0 hw [] b411 o4 .null .null (0 : Int32) (0 : Int32) h411 n0 Z412 A411 F_b411_trail F_b411_words F_b411_initialSize F_b411_size g_b411) hZ (hw _ (List.mem_of_getElem? (i := 86) rfl)) (hw _ (List.mem_of_getElem? (i := 83) rfl)) (by decide) (by decide)) (g := (mkF m 45 #[.val (.ref o0), .val (.int p1), .val (.ref o2), .val (.ref o3), .val (.ref o4), .val (.ref o5)] [(.ref o4), (.int (1 : Int32)), (.ref b411), (.ref b411), (.ref o0)])) rfl (by rw [hml]; rfl) (Steps.refl _) (a := b411) (argsL := [(.int (1 : Int32)), (.ref o4)]) (rest := [(.ref b411), (.ref o0)]) (lenOf own_pd1 rfl) rfl (by show 2 * 0 + _ ≤ _; exact Nat.le_of_eq rfl) (hb hby own_d8_45) (fun _ _ => ⟨rfl, e411, (by decide : 3 + 1 ≤ _), (by decide : 9 + 1 ≤ _)⟩))
  obtain ⟨-, -, K428, Q428_0⟩ := hQ428
  have S_dc_429 := own_StaK S_dc_413 K428 (allS (P := fun o => ∃ C, Exa Z _ o C) ⟨_, A411⟩ all0)
  have E_o0_430 := E_o0_414.keep K428
  have F_o0_constraints_431 := F_o0_constraints_415.keep K428 (ninS ne_o0_b411 nin0)
  have F_o0_index_432 := F_o0_index_416.keep K428 (ninS ne_o0_b411 nin0)
  have F_o0_name_433 := F_o0_name_417.keep K428 (ninS ne_o0_b411 nin0)
  have F_o0_values_434 := F_o0_values_418.keep K428 (ninS ne_o0_b411 nin0)
  have F_o0_domain_435 := F_o0_domain_419.keep K428 (ninS ne_o0_b411 nin0)
  have F_o0_assignmentListeners_436 := F_o0_assignmentListeners_420.keep K428 (ninS ne_o0_b411 nin0)
  have V_o3_437 := V_o3_421.keep K428 (ninS ne_o3_b411 nin0)
  have E_o3_438 := E_o3_422.keep K428
  have Q327_439 := Q327_423.keep K428
  have V_b381_440 := V_b381_424.keep K428 (ninS ne_b381_b411 nin0)
  have Ex381_441 := Ex381_425.keep K428
  have A411_442 := A411.keep K428
  have Kp443 : Keep h0 _ [o0] := Kp426.trans K428 (allS (Or.inr sz_b411) all0)
  have Z444 := Nat.le_trans Z412 K428.1
  refine own_via st428 ?_
  show own_End p e below s _ _ _ (T428.setTop (mkF m 48 #[.val (.ref o0), .val (.int p1), .val (.ref o2), .val (.ref o3), .val (.ref o4), .val (.ref o5)] [(.ref b411), (.ref o0)]))
  obtain ⟨T445, h445, X445, e445, W445, st445⟩ := putF X428 hx hZ hown (host := "") (Or.inl (hw _ (List.mem_of_getElem? (i := 97) rfl))) Via.refl rfl F_o0_domain_435 E_o0_430 (Or.inr ⟨(hw _ (List.mem_of_getElem? (i := 98) rfl)), rfl, hnm⟩) (hw _ (List.mem_of_getElem? (i := 9) rfl)) (ty := (.object "com/example/arcwise/arcwise/network/Domain")) (by decide) rfl rfl (g := (mkF m 48 #[.val (.ref o0), .val (.int p1), .val (.ref o2), .val (.ref o3), .val (.ref o4), .val (.ref o5)] [(.ref b411), (.ref o0)])) rfl rfl (hb hby own_d8_48)
  have F_o0_domain_445 := F_o0_domain_435.same W445
  have S_dc_446 := S_dc_429.wr W445
  have E_o0_447 := E_o0_430.wr W445
  have F_o0_constraints_448 := F_o0_constraints_431.other W445 (Or.inr (slot_ne (Or.inr (hw _ (List.mem_of_getElem? (i := 65) rfl))) (Or.inr (hw _ (List.mem_of_getElem? (i := 98) rfl))) (by decide) (t := (.object "java/util/List")) (t' := (.object "com/example/arcwise/arcwise/network/Domain")) (by decide) (by decide)))
  have F_o0_index_449 := F_o0_index_432.other W445 (Or.inr (slot_ne (Or.inr (hw _ (List.mem_of_getElem? (i := 67) rfl))) (Or.inr (hw _ (List.mem_of_getElem? (i := 98) rfl))) (by decide) (t := .int) (t' := (.object "com/example/arcwise/arcwise/network/Domain")) (by decide) (by decide)))
  have F_o0_name_450 := F_o0_name_433.other W445 (Or.inr (slot_ne (Or.inr (hw _ (List.mem_of_getElem? (i := 69) rfl))) (Or.inr (hw _ (List.mem_of_getElem? (i := 98) rfl))) (by decide) (t := (.object "java/lang/String")) (t' := (.object "com/example/arcwise/arcwise/network/Domain")) (by decide) (by decide)))
  have F_o0_values_451 := F_o0_values_434.other W445 (Or.inr (slot_ne (Or.inr (hw _ (List.mem_of_getElem? (i := 80) rfl))) (Or.inr (hw _ (List.mem_of_getElem? (i := 98) rfl))) (by decide) (t := (.array .int)) (t' := (.object "com/example/arcwise/arcwise/network/Domain")) (by decide) (by decide)))
  have F_o0_assignmentListeners_452 := F_o0_assignmentListeners_436.other W445 (Or.inr (slot_ne (Or.inr (hw _ (List.mem_of_getElem? (i := 100) rfl))) (Or.inr (hw _ (List.mem_of_getElem? (i := 98) rfl))) (by decide) (t := (.object "java/util/List")) (t' := (.object "com/example/arcwise/arcwise/network/Domain")) (by decide) (by decide)))
  have V_o3_453 := V_o3_437.other W445 (Ne.symm ne_o0_o3)
  have E_o3_454 := E_o3_438.wr W445
  have Q327_455 := Q327_439.wr W445
  have V_b381_456 := V_b381_440.other W445 (Ne.symm ne_o0_b381)
  have Ex381_457 := Ex381_441.wr W445
  have Q428_458 := Q428_0.wr W445
  have Kp459 : Keep h0 _ [o0] := Kp443.wr W445 (Or.inl (List.mem_of_getElem? (i := 0) rfl))
  have Z460 := Nat.le_trans Z444 (Keep.of_wr W445).1
  obtain ⟨L445, X445, N445⟩ := own_gl X445 (Fr.snoc X445 N428 g_o0)
  refine own_back st445 ?_
  show own_End p e below s _ _ _ (T445.setTop (mkF m 51 #[.val (.ref o0), .val (.int p1), .val (.ref o2), .val (.ref o3), .val (.ref o4), .val (.ref o5)] []))
  refine own_aloadN X445 hx (hb hby own_d8_51) rfl rfl (q := 52) rfl ?_
  refine own_aload X445 hx (hb hby own_d8_52) rfl rfl (q := 54) rfl ?_
  obtain ⟨T461, h461, X461, e461, W461, st461⟩ := putF X445 hx hZ hown (host := "") (Or.inl (hw _ (List.mem_of_getElem? (i := 99) rfl))) Via.refl e445 F_o0_assignmentListeners_452 E_o0_447 (Or.inr ⟨(hw _ (List.mem_of_getElem? (i := 100) rfl)), rfl, hnm⟩) (hw _ (List.mem_of_getElem? (i := 9) rfl)) (ty := (.object "java/util/List")) (by decide) rfl rfl (g := (mkF m 54 #[.val (.ref o0), .val (.int p1), .val (.ref o2), .val (.ref o3), .val (.ref o4), .val (.ref o5)] [(.ref o5), (.ref o0)])) rfl rfl (hb hby own_d8_54)
  have F_o0_assignmentListeners_461 := F_o0_assignmentListeners_452.same W461
  have S_dc_462 := S_dc_446.wr W461
  have E_o0_463 := E_o0_447.wr W461
  have F_o0_constraints_464 := F_o0_constraints_448.other W461 (Or.inr (slot_ne (Or.inr (hw _ (List.mem_of_getElem? (i := 65) rfl))) (Or.inr (hw _ (List.mem_of_getElem? (i := 100) rfl))) (by decide) (t := (.object "java/util/List")) (t' := (.object "java/util/List")) (by decide) (by decide)))
  have F_o0_index_465 := F_o0_index_449.other W461 (Or.inr (slot_ne (Or.inr (hw _ (List.mem_of_getElem? (i := 67) rfl))) (Or.inr (hw _ (List.mem_of_getElem? (i := 100) rfl))) (by decide) (t := .int) (t' := (.object "java/util/List")) (by decide) (by decide)))
  have F_o0_name_466 := F_o0_name_450.other W461 (Or.inr (slot_ne (Or.inr (hw _ (List.mem_of_getElem? (i := 69) rfl))) (Or.inr (hw _ (List.mem_of_getElem? (i := 100) rfl))) (by decide) (t := (.object "java/lang/String")) (t' := (.object "java/util/List")) (by decide) (by decide)))
  have F_o0_values_467 := F_o0_values_451.other W461 (Or.inr (slot_ne (Or.inr (hw _ (List.mem_of_getElem? (i := 80) rfl))) (Or.inr (hw _ (List.mem_of_getElem? (i := 100) rfl))) (by decide) (t := (.array .int)) (t' := (.object "java/util/List")) (by decide) (by decide)))
  have F_o0_domain_468 := F_o0_domain_445.other W461 (Or.inr (slot_ne (Or.inr (hw _ (List.mem_of_getElem? (i := 98) rfl))) (Or.inr (hw _ (List.mem_of_getElem? (i := 100) rfl))) (by decide) (t := (.object "com/example/arcwise/arcwise/network/Domain")) (t' := (.object "java/util/List")) (by decide) (by decide)))
  have V_o3_469 := V_o3_453.other W461 (Ne.symm ne_o0_o3)
  have E_o3_470 := E_o3_454.wr W461
  have Q327_471 := Q327_455.wr W461
  have V_b381_472 := V_b381_456.other W461 (Ne.symm ne_o0_b381)
  have Ex381_473 := Ex381_457.wr W461
  have Q428_474 := Q428_458.wr W461
  have Kp475 : Keep h0 _ [o0] := Kp459.wr W461 (Or.inl (List.mem_of_getElem? (i := 0) rfl))
  have Z476 := Nat.le_trans Z460 (Keep.of_wr W461).1
  obtain ⟨L461, X461, N461⟩ := own_gl X461 (Fr.snoc X461 N445 g_o0)
  refine own_back st461 ?_
  show own_End p e below s _ _ _ (T461.setTop (mkF m 57 #[.val (.ref o0), .val (.int p1), .val (.ref o2), .val (.ref o3), .val (.ref o4), .val (.ref o5)] []))
  refine own_retV X461 hx Bd.returns Bd.notSynchronized (by decide) (by decide) (hb hby own_d8_57) ?_
  show own_Q8_1 Z o0 p1 o2 o3 o4 o5 w_o0_constraints w_o0_index w_o0_name w_o0_values w_o0_domain w_o0_assignmentListeners k_o3 w_o3_0 sa h0 n0 _ T461.heap _
  rw [e461]
  exact ⟨rfl, N461, Kp475, b381, k_o3, sz_b381, E_o0_463, F_o0_values_467, Ex381_473, V_b381_472⟩
theorem own_d10_15 : decode prog_62_method_6_code 15 = .ok (.iload_n 3, 1) := by decide +kernel
theorem own_d10_16 : decode prog_62_method_6_code 16 = .ok (.iload 4, 2) := by decide +kernel
theorem own_d10_18 : decode prog_62_method_6_code 18 = .ok (.iadd, 1) := by decide +kernel
theorem own_d10_19 : decode prog_62_method_6_code 19 = .ok (.iconst 1, 1) := by decide +kernel
theorem own_d10_20 : decode prog_62_method_6_code 20 = .ok (.iushr, 1) := by decide +kernel
theorem own_d10_21 : decode prog_62_method_6_code 21 = .ok (.istore 5, 2) := by decide +kernel
theorem own_d10_23 : decode prog_62_method_6_code 23 = .ok (.aload_n 0, 1) := by decide +kernel
theorem own_d10_24 : decode prog_62_method_6_code 24 = .ok (.getfield 30, 3) := by decide +kernel
theorem own_d10_27 : decode prog_62_method_6_code 27 = .ok (.iload 5, 2) := by decide +kernel
theorem own_d10_29 : decode prog_62_method_6_code 29 = .ok (.iaload, 1) := by decide +kernel
theorem own_d10_30 : decode prog_62_method_6_code 30 = .ok (.i2l, 1) := by decide +kernel
theorem own_d10_31 : decode prog_62_method_6_code 31 = .ok (.lload_n 1, 1) := by decide +kernel
theorem own_d10_32 : decode prog_62_method_6_code 32 = .ok (.lcmp, 1) := by decide +kernel
theorem own_d10_33 : decode prog_62_method_6_code 33 = .ok (.ifCond .ge 11, 3) := by decide +kernel
theorem own_d10_36 : decode prog_62_method_6_code 36 = .ok (.iload 5, 2) := by decide +kernel
theorem own_d10_38 : decode prog_62_method_6_code 38 = .ok (.iconst 1, 1) := by decide +kernel
theorem own_d10_39 : decode prog_62_method_6_code 39 = .ok (.iadd, 1) := by decide +kernel
theorem own_d10_40 : decode prog_62_method_6_code 40 = .ok (.istore_n 3, 1) := by decide +kernel
theorem own_d10_41 : decode prog_62_method_6_code 41 = .ok (.goto 7, 3) := by decide +kernel
theorem own_d10_48 : decode prog_62_method_6_code 48 = .ok (.goto (-39), 3) := by decide +kernel
theorem own_d10_44 : decode prog_62_method_6_code 44 = .ok (.iload 5, 2) := by decide +kernel
theorem own_d10_46 : decode prog_62_method_6_code 46 = .ok (.istore 4, 2) := by decide +kernel
def own_F10_1 (q1 : Int64) (w_w_o0_values_0 : Int32) : Int32 := (if (w_w_o0_values_0.toInt64) < q1 then (1 : Int32) else (0 : Int32))
def own_Q10_1 (Z : State) (o0 : Addr) (q1 : Int64) (w_o0_values : Addr) (k_w_o0_values : ClassId) (w_w_o0_values_0 : Int32) (h0 : Heap) (n0 : Nat) (v : Option Value) (h : Heap) (L : List Loc) : Prop := v = some (.int (own_F10_1 q1 w_w_o0_values_0)) ∧ Fr n0 L ∧ h = h0
theorem own_pn_rm10_1 : plainName "com/example/arcwise/arcwise/network/Variable" = true := by first | (simp [plainName, overriddenIn]; done) | decide +kernel
theorem own_ef_rm10_1 (m : MethodId) (o0 : Addr) (q1 : Int64) : entryFrame m #[(.ref o0), (.long q1)] 6 = mkF m 0 #[.val (.ref o0), .val (.long q1), .second, .unset, .unset, .unset] [] := by first | (simp [entryFrame, mkF, argsToLocals, Value.category]; done) | rfl
set_option maxRecDepth 65536 in
set_option maxHeartbeats 40000000 in
theorem own_rm10_1 (l : Launch) (Z : State) (a0 : Array Value) (hw : ∀ d ∈ tables_1, d.before a0 Z = true) (ws : List Jvm.Cond) (o0 : Addr) (q1 : Int64) (w_o0_values : Addr) (k_w_o0_values : ClassId) (w_w_o0_values_0 : Int32) (h0 : Heap) (n0 : Nat) (Z0 : n0 ≤ h0.size) (E_o0 : Exa Z h0 o0 "com/example/arcwise/arcwise/network/Variable") (F_o0_values : Fld Z h0 o0 "com/example/arcwise/arcwise/network/Variable" "values" "[I" (.ref w_o0_values)) (V_w_o0_values : Arv Z h0 w_o0_values k_w_o0_values .int (1 : Int32) [(.int w_w_o0_values_0)] (.int (0 : Int32))) :
    MetFree l (⟨"com/example/arcwise/arcwise/network/Variable", "indexAtLeast", "(J)I"⟩ : MethodName) (head1 (Jvm.Cond.code (⟨"com/example/arcwise/arcwise/network/Variable", "indexAtLeast", "(J)I"⟩ : MethodName) prog_62_method_6_code 6 (some .int) :: ws) ({ frames := 0, cells := 0, slots := 0, locals := 0 } : Room)) (fun a U => a = #[(.ref o0), (.long q1)] ∧ Z.Warmed39 U.vm ∧ U.heap = h0) (fun _ _ _ _ _ => True) (fun _ U o U' => ∃ v L, o = .returned v ∧ own_Q10_1 Z o0 q1 w_o0_values k_w_o0_values w_w_o0_values_0 h0 n0 v U'.heap L ∧ FrameEnd U o U' L ({ frames := 0, cells := 0, slots := 0, locals := 0 } : Room).cells ({ frames := 0, cells := 0, slots := 0, locals := 0 } : Room).slots) := by
  refine MetFree.of_bodySF (plainFor_of_name own_pn_rm10_1) hisR ?_
  intro p e s m args below meth c s₁ Bd hml0 hP hK
  obtain ⟨rfl, hZ, hh⟩ := hP
  have hx := Bd.exec
  have hby := Bd.bytes
  have hml : c.maxLocals = 6 := hml0
  have hown : s.vm.findClass "com/example/arcwise/arcwise/network/Variable" = some m.cls := findClass_of_methodNamed Bd.named
  have hnm := (name_of_methodNamed Bd.named Bd.method).1
  have X0 : Stand p l e ({ frames := 0, cells := 0, slots := 0, locals := 0 } : Room) s m #[(.ref o0), (.long q1)] below meth c s₁ [] 0 0 := Stand.of_body Bd
  have e0 : s₁.heap = h0 := by rw [← hh, Bd.state]; rfl
  have N0 := Fr.nil n0
  show own_End p e below s (own_Q10_1 Z o0 q1 w_o0_values k_w_o0_values w_w_o0_values_0 h0 n0) ({ frames := 0, cells := 0, slots := 0, locals := 0 } : Room).cells ({ frames := 0, cells := 0, slots := 0, locals := 0 } : Room).slots (s₁.setTop (entryFrame m #[(.ref o0), (.long q1)] 6))
  rw [own_ef_rm10_1]
  refine own_iconst X0 hx (hb hby own_d10_0) (z := 0) rfl (q := 1) rfl ?_
  refine own_istoreN X0 hx (hb hby own_d10_1) (l' := #[.val (.ref o0), .val (.long q1), .second, .val (.int (0 : Int32)), .unset, .unset]) rfl (q := 2) rfl ?_
  refine own_aloadN X0 hx (hb hby own_d10_2) rfl rfl (q := 3) rfl ?_
  obtain ⟨T478, X478, e478, st478⟩ := getF X0 hx hZ hown (host := "") (Or.inl (hw _ (List.mem_of_getElem? (i := 79) rfl))) Via.refl e0 F_o0_values (g := (mkF m 3 #[.val (.ref o0), .val (.long q1), .second, .val (.int (0 : Int32)), .unset, .unset] [(.ref o0)])) rfl rfl (hb hby own_d10_3)
  refine own_back st478 ?_
  show own_End p e below s _ _ _ (T478.setTop (mkF m 6 #[.val (.ref o0), .val (.long q1), .second, .val (.int (0 : Int32)), .unset, .unset] [(.ref w_o0_values)]))
  obtain ⟨cl479, Ar479, q479, S479, N479v, H479, G479⟩ := id V_w_o0_values
  refine own_back (X478.arraylength hx (by rw [e478]; exact Ar479.1) (State.isArrayOf_alike hZ.alike Ar479.2.1) (g := (mkF m 6 #[.val (.ref o0), .val (.long q1), .second, .val (.int (0 : Int32)), .unset, .unset] [(.ref w_o0_values)])) rfl rfl (hb hby own_d10_6)) ?_
  rw [len_of S479 N479v]
  show own_End p e below s _ _ _ (T478.setTop (mkF m 7 #[.val (.ref o0), .val (.long q1), .second, .val (.int (0 : Int32)), .unset, .unset] [(.int (1 : Int32))]))
  refine own_istore X478 hx (hb hby own_d10_7) (l' := #[.val (.ref o0), .val (.long q1), .second, .val (.int (0 : Int32)), .val (.int (1 : Int32)), .unset]) rfl (q := 9) rfl ?_
  refine own_iloadN X478 hx (hb hby own_d10_9) rfl (q := 10) rfl ?_
  refine own_iload X478 hx (hb hby own_d10_10) rfl (q := 12) rfl ?_
  refine own_icN X478 hx (hb hby own_d10_12) (tlt (by decide : ((0 : Int32) < (1 : Int32)))).2.1 (q := 15) rfl ?_
  refine own_iloadN X478 hx (hb hby own_d10_15) rfl (q := 16) rfl ?_
  refine own_iload X478 hx (hb hby own_d10_16) rfl (q := 18) rfl ?_
  refine own_iadd X478 hx (hb hby own_d10_18) (q := 19) rfl ?_
  show own_End p e below s _ _ _ (T478.setTop (mkF m 19 #[.val (.ref o0), .val (.long q1), .second, .val (.int (0 : Int32)), .val (.int (1 : Int32)), .unset] [(.int (1 : Int32))]))
  refine own_iconst X478 hx (hb hby own_d10_19) (z := 1) rfl (q := 20) rfl ?_
  refine own_iushr X478 hx (hb hby own_d10_20) (q := 21) rfl ?_
  show own_End p e below s _ _ _ (T478.setTop (mkF m 21 #[.val (.ref o0), .val (.long q1), .second, .val (.int (0 : Int32)), .val (.int (1 : Int32)), .unset] [(.int (0 : Int32))]))
  refine own_istore X478 hx (hb hby own_d10_21) (l' := #[.val (.ref o0), .val (.long q1), .second, .val (.int (0 : Int32)), .val (.int (1 : Int32)), .val (.int (0 : Int32))]) rfl (q := 23) rfl ?_
  refine own_aloadN X478 hx (hb hby own_d10_23) rfl rfl (q := 24) rfl ?_
  obtain ⟨T480, X480, e480, st480⟩ := getF X478 hx hZ hown (host := "") (Or.inl (hw _ (List.mem_of_getElem? (i := 79) rfl))) Via.refl e478 F_o0_values (g := (mkF m 24 #[.val (.ref o0), .val (.long q1), .second, .val (.int (0 : Int32)), .val (.int (1 : Int32)), .val (.int (0 : Int32))] [(.ref o0)])) rfl rfl (hb hby own_d10_24)
  refine own_back st480 ?_
  show own_End p e below s _ _ _ (T480.setTop (mkF m 27 #[.val (.ref o0), .val (.long q1), .second, .val (.int (0 : Int32)), .val (.int (1 : Int32)), .val (.int (0 : Int32))] [(.ref w_o0_values)]))
  refine own_iload X480 hx (hb hby own_d10_27) rfl (q := 29) rfl ?_
  obtain ⟨cl481, Ar481, q481, S481, N481v, H481, G481⟩ := id V_w_o0_values
  have hin481 : ¬ ((0 : Int32) < 0 ∨ cl481.slots.size ≤ ((0 : Int32)).toNatClampNeg) := inb_of S481 ⟨by decide, by decide⟩
  refine own_back (X480.iaload hx (j := (0 : Int32)) (v := (.int w_w_o0_values_0)) (by rw [e480]; exact Ar481.1) (State.isArrayOf_alike hZ.alike Ar481.2.1) Ar481.2.2 hin481 (Has.at H481 hin481 rfl) (g := (mkF m 29 #[.val (.ref o0), .val (.long q1), .second, .val (.int (0 : Int32)), .val (.int (1 : Int32)), .val (.int (0 : Int32))] [(.int (0 : Int32)), (.ref w_o0_values)])) rfl rfl (hb hby own_d10_29)) ?_
  show own_End p e below s _ _ _ (T480.setTop (mkF m 30 #[.val (.ref o0), .val (.long q1), .second, .val (.int (0 : Int32)), .val (.int (1 : Int32)), .val (.int (0 : Int32))] [(.int w_w_o0_values_0)]))
  refine own_i2l X480 hx (hb hby own_d10_30) (q := 31) rfl ?_
  refine own_lloadN X480 hx (hb hby own_d10_31) rfl (q := 32) rfl ?_
  by_cases hc33_482 : (w_w_o0_values_0.toInt64) < q1
  · refine own_lcN X480 hx (hb hby own_d10_32) (r := 33) rfl (hb hby own_d10_33) (own_tlt hc33_482).2.1 (q := 36) rfl ?_
    refine own_iload X480 hx (hb hby own_d10_36) rfl (q := 38) rfl ?_
    refine own_iconst X480 hx (hb hby own_d10_38) (z := 1) rfl (q := 39) rfl ?_
    refine own_iadd X480 hx (hb hby own_d10_39) (q := 40) rfl ?_
    show own_End p e below s _ _ _ (T480.setTop (mkF m 40 #[.val (.ref o0), .val (.long q1), .second, .val (.int (0 : Int32)), .val (.int (1 : Int32)), .val (.int (0 : Int32))] [(.int (1 : Int32))]))
    refine own_istoreN X480 hx (hb hby own_d10_40) (l' := #[.val (.ref o0), .val (.long q1), .second, .val (.int (1 : Int32)), .val (.int (1 : Int32)), .val (.int (0 : Int32))]) rfl (q := 41) rfl ?_
    refine own_goto X480 hx (hb hby own_d10_41) (q := 48) (by decide) (by decide) ?_
    refine own_goto X480 hx (hb hby own_d10_48) (q := 9) (by decide) (by decide) ?_
    refine own_iloadN X480 hx (hb hby own_d10_9) rfl (q := 10) rfl ?_
    refine own_iload X480 hx (hb hby own_d10_10) rfl (q := 12) rfl ?_
    refine own_icY X480 hx (hb hby own_d10_12) (flt (by decide : ¬ ((1 : Int32) < (1 : Int32)))).2.1 (q := 51) (by decide) (by decide) ?_
    refine own_iloadN X480 hx (hb hby own_d10_51) rfl (q := 52) rfl ?_
    refine own_retI X480 hx Bd.returns Bd.notSynchronized (by decide) (by decide) (hb hby own_d10_52) ?_
    show own_Q10_1 Z o0 q1 w_o0_values k_w_o0_values w_w_o0_values_0 h0 n0 _ T480.heap _
    exact ⟨(by simp only [own_F10_1, if_pos hc33_482]), N0, e480⟩
  · refine own_lcY X480 hx (hb hby own_d10_32) (r := 33) rfl (hb hby own_d10_33) (own_flt hc33_482).2.1 (q := 44) (by decide) (by decide) ?_
    refine own_iload X480 hx (hb hby own_d10_44) rfl (q := 46) rfl ?_
    refine own_istore X480 hx (hb hby own_d10_46) (l' := #[.val (.ref o0), .val (.long q1), .second, .val (.int (0 : Int32)), .val (.int (0 : Int32)), .val (.int (0 : Int32))]) rfl (q := 48) rfl ?_
    refine own_goto X480 hx (hb hby own_d10_48) (q := 9) (by decide) (by decide) ?_
    refine own_iloadN X480 hx (hb hby own_d10_9) rfl (q := 10) rfl ?_
    refine own_iload X480 hx (hb hby own_d10_10) rfl (q := 12) rfl ?_
    refine own_icY X480 hx (hb hby own_d10_12) (flt (by decide : ¬ ((0 : Int32) < (0 : Int32)))).2.1 (q := 51) (by decide) (by decide) ?_
    refine own_iloadN X480 hx (hb hby own_d10_51) rfl (q := 52) rfl ?_
    refine own_retI X480 hx Bd.returns Bd.notSynchronized (by decide) (by decide) (hb hby own_d10_52) ?_
    show own_Q10_1 Z o0 q1 w_o0_values k_w_o0_values w_w_o0_values_0 h0 n0 _ T480.heap _
    exact ⟨(by simp only [own_F10_1, if_neg hc33_482]), N0, e480⟩
def own_Q9_2 (Z : State) (o0 : Addr) (o2 : Addr) (w_o0_trail : Value) (w_o0_words : Value) (w_o0_initialSize : Int32) (w_o0_size : Int32) (h0 : Heap) (n0 : Nat) (v : Option Value) (h : Heap) (L : List Loc) : Prop := v = none ∧ Fr n0 L ∧ Keep h0 h [o0] ∧ Exa Z h o0 "com/example/arcwise/arcwise/network/Domain"
theorem own_pn_rm9_2 : plainName "com/example/arcwise/arcwise/network/Domain" = true := by first | (simp [plainName, overriddenIn]; done) | decide +kernel
theorem own_ef_rm9_2 (m : MethodId) (o0 : Addr) (o2 : Addr) : entryFrame m #[(.ref o0), (.int (2 : Int32)), (.ref o2)] 4 = mkF m 0 #[.val (.ref o0), .val (.int (2 : Int32)), .val (.ref o2), .unset] [] := by first | (simp [entryFrame, mkF, argsToLocals, Value.category]; done) | rfl
set_option maxRecDepth 65536 in
set_option maxHeartbeats 40000000 in
theorem own_rm9_2 (l : Launch) (Z : State) (a0 : Array Value) (hw : ∀ d ∈ tables_1, d.before a0 Z = true) (ws : List Jvm.Cond) (o0 : Addr) (o2 : Addr) (w_o0_trail : Value) (w_o0_words : Value) (w_o0_initialSize : Int32) (w_o0_size : Int32) (h0 : Heap) (n0 : Nat) (Z0 : n0 ≤ h0.size) (E_o0 : Exa Z h0 o0 "com/example/arcwise/arcwise/network/Domain") (F_o0_trail : Fld Z h0 o0 "com/example/arcwise/arcwise/network/Domain" "trail" "Lcom/example/arcwise/arcwise/network/Trail;" w_o0_trail) (F_o0_words : Fld Z h0 o0 "com/example/arcwise/arcwise/network/Domain" "words" "[J" w_o0_words) (F_o0_initialSize : Fld Z h0 o0 "com/example/arcwise/arcwise/network/Domain" "initialSize" "I" (.int w_o0_initialSize)) (F_o0_size : Fld Z h0 o0 "com/example/arcwise/arcwise/network/Domain" "size" "I" (.int w_o0_size)) (g_o0 : n0 ≤ o0) :
    MetFree l (⟨"com/example/arcwise/arcwise/network/Domain", "<init>", "(ILcom/example/arcwise/arcwise/network/Trail;)V"⟩ : MethodName) (head1 (Jvm.Cond.code (⟨"com/example/arcwise/arcwise/network/Domain", "<init>", "(ILcom/example/arcwise/arcwise/network/Trail;)V"⟩ : MethodName) prog_59_method_1_code 4 none :: ws) ({ frames := 1, cells := 1, slots := 1, locals := 12 } : Room)) (fun a U => a = #[(.ref o0), (.int (2 : Int32)), (.ref o2)] ∧ Z.Warmed39 U.vm ∧ U.heap = h0) (fun _ _ _ _ _ => True) (fun _ U o U' => ∃ v L, o = .returned v ∧ own_Q9_2 Z o0 o2 w_o0_trail w_o0_words w_o0_initialSize w_o0_size h0 n0 v U'.heap L ∧ FrameEnd U o U' L ({ frames := 1, cells := 1, slots := 1, locals := 12 } : Room).cells ({ frames := 1, cells := 1, slots := 1, locals := 12 } : Room).slots) := by
  refine MetFree.of_bodySF (plainFor_of_name own_pn_rm9_2) hisR ?_
  intro p e s m args below meth c s₁ Bd hml0 hP hK
  obtain ⟨rfl, hZ, hh⟩ := hP
  have hx := Bd.exec
  have hby := Bd.bytes
  have hml : c.maxLocals = 4 := hml0
  have hown : s.vm.findClass "com/example/arcwise/arcwise/network/Domain" = some m.cls := findClass_of_methodNamed Bd.named
  have hnm := (name_of_methodNamed Bd.named Bd.method).1
  have X0 : Stand p l e ({ frames := 1, cells := 1, slots := 1, locals := 12 } : Room) s m #[(.ref o0), (.int (2 : Int32)), (.ref o2)] below meth c s₁ [] 0 0 := Stand.of_body Bd
  have e0 : s₁.heap = h0 := by rw [← hh, Bd.state]; rfl
  have N0 := Fr.nil n0
  show own_End p e below s (own_Q9_2 Z o0 o2 w_o0_trail w_o0_words w_o0_initialSize w_o0_size h0 n0) ({ frames := 1, cells := 1, slots := 1, locals := 12 } : Room).cells ({ frames := 1, cells := 1, slots := 1, locals := 12 } : Room).slots (s₁.setTop (entryFrame m #[(.ref o0), (.int (2 : Int32)), (.ref o2)] 4))
  rw [own_ef_rm9_2]
  refine own_aloadN X0 hx (hb hby own_d9_0) rfl rfl (q := 1) rfl ?_
  obtain ⟨T485, X485, e485, st485⟩ := initO X0 hx hZ hown (hw _ (List.mem_of_getElem? (i := 87) rfl)) (hw _ (List.mem_of_getElem? (i := 26) rfl)) (hw _ (List.mem_of_getElem? (i := 27) rfl)) e0 (g := (mkF m 1 #[.val (.ref o0), .val (.int (2 : Int32)), .val (.ref o2), .unset] [(.ref o0)])) rfl (by rw [hml]; rfl) rfl (hb hby own_d9_1) (by decide) (W := 0) (by show 2 * 0 + _ ≤ _; exact Nat.le_of_eq rfl) (by decide)
  refine own_back st485 ?_
  show own_End p e below s _ _ _ (T485.setTop (mkF m 4 #[.val (.ref o0), .val (.int (2 : Int32)), .val (.ref o2), .unset] []))
  refine own_aloadN X485 hx (hb hby own_d9_4) rfl rfl (q := 5) rfl ?_
  refine own_aloadN X485 hx (hb hby own_d9_5) rfl rfl (q := 6) rfl ?_
  obtain ⟨T486, h486, X486, e486, W486, st486⟩ := putF X485 hx hZ hown (host := "") (Or.inl (hw _ (List.mem_of_getElem? (i := 88) rfl))) Via.refl e485 F_o0_trail E_o0 (Or.inr ⟨(hw _ (List.mem_of_getElem? (i := 89) rfl)), rfl, hnm⟩) (hw _ (List.mem_of_getElem? (i := 82) rfl)) (ty := (.object "com/example/arcwise/arcwise/network/Trail")) (by decide) rfl rfl (g := (mkF m 6 #[.val (.ref o0), .val (.int (2 : Int32)), .val (.ref o2), .unset] [(.ref o2), (.ref o0)])) rfl rfl (hb hby own_d9_6)
  have F_o0_trail_486 := F_o0_trail.same W486
  have E_o0_487 := E_o0.wr W486
  have F_o0_words_488 := F_o0_words.other W486 (Or.inr (slot_ne (Or.inr (hw _ (List.mem_of_getElem? (i := 92) rfl))) (Or.inr (hw _ (List.mem_of_getElem? (i := 89) rfl))) (by decide) (t := (.array .long)) (t' := (.object "com/example/arcwise/arcwise/network/Trail")) (by decide) (by decide)))
  have F_o0_initialSize_489 := F_o0_initialSize.other W486 (Or.inr (slot_ne (Or.inr (hw _ (List.mem_of_getElem? (i := 94) rfl))) (Or.inr (hw _ (List.mem_of_getElem? (i := 89) rfl))) (by decide) (t := .int) (t' := (.object "com/example/arcwise/arcwise/network/Trail")) (by decide) (by decide)))
  have F_o0_size_490 := F_o0_size.other W486 (Or.inr (slot_ne (Or.inl (hw _ (List.mem_of_getElem? (i := 96) rfl))) (Or.inr (hw _ (List.mem_of_getElem? (i := 89) rfl))) (by decide) (t := .int) (t' := (.object "com/example/arcwise/arcwise/network/Trail")) (by decide) (by decide)))
  have Kp491 : Keep h0 _ [o0] := (Keep.refl h0 [o0]).wr W486 (Or.inl (List.mem_of_getElem? (i := 0) rfl))
  have Z492 := Nat.le_trans Z0 (Keep.of_wr W486).1
  obtain ⟨L486, X486, N486⟩ := own_gl X486 (Fr.snoc X486 N0 g_o0)
  refine own_back st486 ?_
  show own_End p e below s _ _ _ (T486.setTop (mkF m 9 #[.val (.ref o0), .val (.int (2 : Int32)), .val (.ref o2), .unset] []))
  refine own_aloadN X486 hx (hb hby own_d9_9) rfl rfl (q := 10) rfl ?_
  refine own_iloadN X486 hx (hb hby own_d9_10) rfl (q := 11) rfl ?_
  refine own_bipush X486 hx (hb hby own_d9_11) (z := 63) rfl (q := 13) rfl ?_
  refine own_iadd X486 hx (hb hby own_d9_13) (q := 14) rfl ?_
  show own_End p e below s _ _ _ (T486.setTop (mkF m 14 #[.val (.ref o0), .val (.int (2 : Int32)), .val (.ref o2), .unset] [(.int (65 : Int32)), (.ref o0)]))
  refine own_bipush X486 hx (hb hby own_d9_14) (z := 6) rfl (q := 16) rfl ?_
  refine own_iushr X486 hx (hb hby own_d9_16) (q := 17) rfl ?_
  show own_End p e below s _ _ _ (T486.setTop (mkF m 17 #[.val (.ref o0), .val (.int (2 : Int32)), .val (.ref o2), .unset] [(.int (1 : Int32)), (.ref o0)]))
  obtain ⟨T493, h493, k493, X493, e493, E493, A493, st493⟩ := newP X486 hx hZ (hw _ (List.mem_of_getElem? (i := 90) rfl)) e486 (g := (mkF m 17 #[.val (.ref o0), .val (.int (2 : Int32)), .val (.ref o2), .unset] [(.int (1 : Int32)), (.ref o0)])) rfl (hb hby own_d9_17) rfl (by decide) (cap := 1) (by decide) (by decide) (by decide) (by decide)
  obtain ⟨b493, g493⟩ : ∃ z, z = h486.size := ⟨_, rfl⟩
  have ne_o0_b493 : o0 ≠ b493 := Nat.ne_of_lt (Nat.lt_of_lt_of_le E_o0_487.lt (Nat.le_of_eq g493.symm))
  have g_b493 : n0 ≤ b493 := Nat.le_trans Z492 (Nat.le_of_eq g493.symm)
  have sz_b493 : h0.size ≤ b493 := Nat.le_trans Kp491.1 (Nat.le_of_eq g493.symm)
  have Z494 := Nat.le_trans Z492 E493.1
  rw [← g493] at A493 st493
  have E_o0_495 := E_o0_487.ext E493
  have F_o0_trail_496 := F_o0_trail_486.ext E493
  have F_o0_words_497 := F_o0_words_488.ext E493
  have F_o0_initialSize_498 := F_o0_initialSize_489.ext E493
  have F_o0_size_499 := F_o0_size_490.ext E493
  have Kp500 : Keep h0 _ [o0] := Kp491.ext E493
  have V_b493 : Arv Z h493 b493 k493 .long (1 : Int32) [(.long (0 : Int64))] (.long (0 : Int64)) := (Arv.new A493 (by decide)).pad (pad_rep [] (.long (0 : Int64)) 1)
  refine own_back st493 ?_
  show own_End p e below s _ _ _ (T493.setTop (mkF m 19 #[.val (.ref o0), .val (.int (2 : Int32)), .val (.ref o2), .unset] [(.ref b493), (.ref o0)]))
  obtain ⟨T501, h501, X501, e501, W501, st501⟩ := putF X493 hx hZ hown (host := "") (Or.inl (hw _ (List.mem_of_getElem? (i := 91) rfl))) Via.refl e493 F_o0_words_497 E_o0_495 (Or.inr ⟨(hw _ (List.mem_of_getElem? (i := 92) rfl)), rfl, hnm⟩) (hw _ (List.mem_of_getElem? (i := 82) rfl)) (ty := (.array .long)) (by decide) rfl rfl (g := (mkF m 19 #[.val (.ref o0), .val (.int (2 : Int32)), .val (.ref o2), .unset] [(.ref b493), (.ref o0)])) rfl rfl (hb hby own_d9_19)
  have F_o0_words_501 := F_o0_words_497.same W501
  have E_o0_502 := E_o0_495.wr W501
  have F_o0_trail_503 := F_o0_trail_496.other W501 (Or.inr (slot_ne (Or.inr (hw _ (List.mem_of_getElem? (i := 89) rfl))) (Or.inr (hw _ (List.mem_of_getElem? (i := 92) rfl))) (by decide) (t := (.object "com/example/arcwise/arcwise/network/Trail")) (t' := (.array .long)) (by decide) (by decide)))
  have F_o0_initialSize_504 := F_o0_initialSize_498.other W501 (Or.inr (slot_ne (Or.inr (hw _ (List.mem_of_getElem? (i := 94) rfl))) (Or.inr (hw _ (List.mem_of_getElem? (i := 92) rfl))) (by decide) (t := .int) (t' := (.array .long)) (by decide) (by decide)))
  have F_o0_size_505 := F_o0_size_499.other W501 (Or.inr (slot_ne (Or.inl (hw _ (List.mem_of_getElem? (i := 96) rfl))) (Or.inr (hw _ (List.mem_of_getElem? (i := 92) rfl))) (by decide) (t := .int) (t' := (.array .long)) (by decide) (by decide)))
  have V_b493_506 := V_b493.other W501 (Ne.symm ne_o0_b493)
  have Kp507 : Keep h0 _ [o0] := Kp500.wr W501 (Or.inl (List.mem_of_getElem? (i := 0) rfl))
  have Z508 := Nat.le_trans Z494 (Keep.of_wr W501).1
  obtain ⟨L501, X501, N501⟩ := own_gl X501 (Fr.snoc X501 N486 g_o0)
  refine own_back st501 ?_
  show own_End p e below s _ _ _ (T501.setTop (mkF m 22 #[.val (.ref o0), .val (.int (2 : Int32)), .val (.ref o2), .unset] []))
  refine own_aloadN X501 hx (hb hby own_d9_22) rfl rfl (q := 23) rfl ?_
  refine own_iloadN X501 hx (hb hby own_d9_23) rfl (q := 24) rfl ?_
  obtain ⟨T509, h509, X509, e509, W509, st509⟩ := putF X501 hx hZ hown (host := "") (Or.inl (hw _ (List.mem_of_getElem? (i := 93) rfl))) Via.refl e501 F_o0_initialSize_504 E_o0_502 (Or.inr ⟨(hw _ (List.mem_of_getElem? (i := 94) rfl)), rfl, hnm⟩) (hw _ (List.mem_of_getElem? (i := 82) rfl)) (ty := .int) (by decide) rfl rfl (g := (mkF m 24 #[.val (.ref o0), .val (.int (2 : Int32)), .val (.ref o2), .unset] [(.int (2 : Int32)), (.ref o0)])) rfl rfl (hb hby own_d9_24)
  have F_o0_initialSize_509 := F_o0_initialSize_504.same W509
  have E_o0_510 := E_o0_502.wr W509
  have F_o0_trail_511 := F_o0_trail_503.other W509 (Or.inr (slot_ne (Or.inr (hw _ (List.mem_of_getElem? (i := 89) rfl))) (Or.inr (hw _ (List.mem_of_getElem? (i := 94) rfl))) (by decide) (t := (.object "com/example/arcwise/arcwise/network/Trail")) (t' := .int) (by decide) (by decide)))
  have F_o0_words_512 := F_o0_words_501.other W509 (Or.inr (slot_ne (Or.inr (hw _ (List.mem_of_getElem? (i := 92) rfl))) (Or.inr (hw _ (List.mem_of_getElem? (i := 94) rfl))) (by decide) (t := (.array .long)) (t' := .int) (by decide) (by decide)))
  have F_o0_size_513 := F_o0_size_505.other W509 (Or.inr (slot_ne (Or.inl (hw _ (List.mem_of_getElem? (i := 96) rfl))) (Or.inr (hw _ (List.mem_of_getElem? (i := 94) rfl))) (by decide) (t := .int) (t' := .int) (by decide) (by decide)))
  have V_b493_514 := V_b493_506.other W509 (Ne.symm ne_o0_b493)
  have Kp515 : Keep h0 _ [o0] := Kp507.wr W509 (Or.inl (List.mem_of_getElem? (i := 0) rfl))
  have Z516 := Nat.le_trans Z508 (Keep.of_wr W509).1
  obtain ⟨L509, X509, N509⟩ := own_gl X509 (Fr.snoc X509 N501 g_o0)
  refine own_back st509 ?_
  show own_End p e below s _ _ _ (T509.setTop (mkF m 27 #[.val (.ref o0), .val (.int (2 : Int32)), .val (.ref o2), .unset] []))
  refine own_aloadN X509 hx (hb hby own_d9_27) rfl rfl (q := 28) rfl ?_
  refine own_iloadN X509 hx (hb hby own_d9_28) rfl (q := 29) rfl ?_
  obtain ⟨T517, h517, X517, e517, W517, st517⟩ := putF X509 hx hZ hown (host := "") (Or.inl (hw _ (List.mem_of_getElem? (i := 95) rfl))) Via.refl e509 F_o0_size_513 E_o0_510 (Or.inl (hw _ (List.mem_of_getElem? (i := 96) rfl))) (hw _ (List.mem_of_getElem? (i := 82) rfl)) (ty := .int) (by decide) rfl rfl (g := (mkF m 29 #[.val (.ref o0), .val (.int (2 : Int32)), .val (.ref o2), .unset] [(.int (2 : Int32)), (.ref o0)])) rfl rfl (hb hby own_d9_29)
  have F_o0_size_517 := F_o0_size_513.same W517
  have E_o0_518 := E_o0_510.wr W517
  have F_o0_trail_519 := F_o0_trail_511.other W517 (Or.inr (slot_ne (Or.inr (hw _ (List.mem_of_getElem? (i := 89) rfl))) (Or.inl (hw _ (List.mem_of_getElem? (i := 96) rfl))) (by decide) (t := (.object "com/example/arcwise/arcwise/network/Trail")) (t' := .int) (by decide) (by decide)))
  have F_o0_words_520 := F_o0_words_512.other W517 (Or.inr (slot_ne (Or.inr (hw _ (List.mem_of_getElem? (i := 92) rfl))) (Or.inl (hw _ (List.mem_of_getElem? (i := 96) rfl))) (by decide) (t := (.array .long)) (t' := .int) (by decide) (by decide)))
  have F_o0_initialSize_521 := F_o0_initialSize_509.other W517 (Or.inr (slot_ne (Or.inr (hw _ (List.mem_of_getElem? (i := 94) rfl))) (Or.inl (hw _ (List.mem_of_getElem? (i := 96) rfl))) (by decide) (t := .int) (t' := .int) (by decide) (by decide)))
  have V_b493_522 := V_b493_514.other W517 (Ne.symm ne_o0_b493)
  have Kp523 : Keep h0 _ [o0] := Kp515.wr W517 (Or.inl (List.mem_of_getElem? (i := 0) rfl))
  have Z524 := Nat.le_trans Z516 (Keep.of_wr W517).1
  obtain ⟨L517, X517, N517⟩ := own_gl X517 (Fr.snoc X517 N509 g_o0)
  refine own_back st517 ?_
  show own_End p e below s _ _ _ (T517.setTop (mkF m 32 #[.val (.ref o0), .val (.int (2 : Int32)), .val (.ref o2), .unset] []))
  refine own_iconst X517 hx (hb hby own_d9_32) (z := 0) rfl (q := 33) rfl ?_
  refine own_istoreN X517 hx (hb hby own_d9_33) (l' := #[.val (.ref o0), .val (.int (2 : Int32)), .val (.ref o2), .val (.int (0 : Int32))]) rfl (q := 34) rfl ?_
  refine own_iloadN X517 hx (hb hby own_d9_34) rfl (q := 35) rfl ?_
  refine own_iloadN X517 hx (hb hby own_d9_35) rfl (q := 36) rfl ?_
  refine own_icN X517 hx (hb hby own_d9_36) (tlt (by decide : ((0 : Int32) < (2 : Int32)))).2.1 (q := 39) rfl ?_
  refine own_aloadN X517 hx (hb hby own_d9_39) rfl rfl (q := 40) rfl ?_
  obtain ⟨T525, X525, e525, st525⟩ := getF X517 hx hZ hown (host := "") (Or.inl (hw _ (List.mem_of_getElem? (i := 91) rfl))) Via.refl e517 F_o0_words_520 (g := (mkF m 40 #[.val (.ref o0), .val (.int (2 : Int32)), .val (.ref o2), .val (.int (0 : Int32))] [(.ref o0)])) rfl rfl (hb hby own_d9_40)
  refine own_back st525 ?_
  show own_End p e below s _ _ _ (T525.setTop (mkF m 43 #[.val (.ref o0), .val (.int (2 : Int32)), .val (.ref o2), .val (.int (0 : Int32))] [(.ref b493)]))
  refine own_iloadN X525 hx (hb hby own_d9_43) rfl (q := 44) rfl ?_
  refine own_bipush X525 hx (hb hby own_d9_44) (z := 6) rfl (q := 46) rfl ?_
  refine own_iushr X525 hx (hb hby own_d9_46) (q := 47) rfl ?_
  show own_End p e below s _ _ _ (T525.setTop (mkF m 47 #[.val (.ref o0), .val (.int (2 : Int32)), .val (.ref o2), .val (.int (0 : Int32))] [(.int (0 : Int32)), (.ref b493)]))
  refine own_back (fun _ k => ?_) (b := T525.setTop (mkF m 48 #[.val (.ref o0), .val (.int (2 : Int32)), .val (.ref o2), .val (.int (0 : Int32))] [(.int (0 : Int32)), (.ref b493), (.int (0 : Int32)), (.ref b493)])) ?_
  · jvm_step X525.here [X525.here.top, hx, (hb hby own_d9_47), Value.category]
    exact k
  obtain ⟨cl526, Ar526, q526, S526, N526v, H526, G526⟩ := id V_b493_522
  have hin526 : ¬ ((0 : Int32) < 0 ∨ cl526.slots.size ≤ ((0 : Int32)).toNatClampNeg) := inb_of S526 ⟨by decide, by decide⟩
  refine own_back (X525.laload hx (j := (0 : Int32)) (v := (.long (0 : Int64))) (by rw [e525]; exact Ar526.1) (State.isArrayOf_alike hZ.alike Ar526.2.1) Ar526.2.2 hin526 (Has.at H526 hin526 rfl) (g := (mkF m 48 #[.val (.ref o0), .val (.int (2 : Int32)), .val (.ref o2), .val (.int (0 : Int32))] [(.int (0 : Int32)), (.ref b493), (.int (0 : Int32)), (.ref b493)])) rfl rfl (hb hby own_d9_48)) ?_
  show own_End p e below s _ _ _ (T525.setTop (mkF m 49 #[.val (.ref o0), .val (.int (2 : Int32)), .val (.ref o2), .val (.int (0 : Int32))] [(.long (0 : Int64)), (.int (0 : Int32)), (.ref b493)]))
  refine own_lconst X525 hx (hb hby own_d9_49) (z := 1) rfl (q := 50) rfl ?_
  refine own_iloadN X525 hx (hb hby own_d9_50) rfl (q := 51) rfl ?_
  refine own_lshl X525 hx (hb hby own_d9_51) (q := 52) rfl ?_
  show own_End p e below s _ _ _ (T525.setTop (mkF m 52 #[.val (.ref o0), .val (.int (2 : Int32)), .val (.ref o2), .val (.int (0 : Int32))] [(.long (1 : Int64)), (.long (0 : Int64)), (.int (0 : Int32)), (.ref b493)]))
  refine own_lor X525 hx (hb hby own_d9_52) (q := 53) rfl ?_
  show own_End p e below s _ _ _ (T525.setTop (mkF m 53 #[.val (.ref o0), .val (.int (2 : Int32)), .val (.ref o2), .val (.int (0 : Int32))] [(.long (1 : Int64)), (.int (0 : Int32)), (.ref b493)]))
  obtain ⟨cl527, Ar527, q527, S527, N527v, H527, G527⟩ := id V_b493_522
  have hin527 : ¬ ((0 : Int32) < 0 ∨ cl527.slots.size ≤ ((0 : Int32)).toNatClampNeg) := inb_of S527 ⟨by decide, by decide⟩
  obtain ⟨T527, h527, X527, e527, W527, st527⟩ := stJ X525 hx hZ e525 Ar527 (j := (0 : Int32)) hin527 (g := (mkF m 53 #[.val (.ref o0), .val (.int (2 : Int32)), .val (.ref o2), .val (.int (0 : Int32))] [(.long (1 : Int64)), (.int (0 : Int32)), (.ref b493)])) rfl rfl (hb hby own_d9_53)
  have V_b493_527 : Arv Z h527 b493 k493 .long (1 : Int32) [(.long (1 : Int64))] (.long (0 : Int64)) := Arv.set Ar527 q527 S527 N527v H527 G527 rfl W527 0 rfl (Nat.le_of_ble_eq_true rfl)
  have E_o0_528 := E_o0_518.wr W527
  have F_o0_trail_529 := F_o0_trail_519.other W527 (Or.inl ne_o0_b493)
  have F_o0_words_530 := F_o0_words_520.other W527 (Or.inl ne_o0_b493)
  have F_o0_initialSize_531 := F_o0_initialSize_521.other W527 (Or.inl ne_o0_b493)
  have F_o0_size_532 := F_o0_size_517.other W527 (Or.inl ne_o0_b493)
  have Kp533 : Keep h0 _ [o0] := Kp523.wr W527 (Or.inr sz_b493)
  have Z534 := Nat.le_trans Z524 (Keep.of_wr W527).1
  obtain ⟨L527, X527, N527⟩ := own_gl X527 (Fr.snoc X527 N517 g_b493)
  refine own_back st527 ?_
  show own_End p e below s _ _ _ (T527.setTop (mkF m 54 #[.val (.ref o0), .val (.int (2 : Int32)), .val (.ref o2), .val (.int (0 : Int32))] []))
  refine own_iinc X527 hx (hb hby own_d9_54) rfl (z := 1) rfl (l' := #[.val (.ref o0), .val (.int (2 : Int32)), .val (.ref o2), .val (.int (1 : Int32))]) rfl (q := 57) rfl ?_
  refine own_goto X527 hx (hb hby own_d9_57) (q := 34) (by decide) (by decide) ?_
  refine own_iloadN X527 hx (hb hby own_d9_34) rfl (q := 35) rfl ?_
  refine own_iloadN X527 hx (hb hby own_d9_35) rfl (q := 36) rfl ?_
  refine own_icN X527 hx (hb hby own_d9_36) (tlt (by decide : ((1 : Int32) < (2 : Int32)))).2.1 (q := 39) rfl ?_
  refine own_aloadN X527 hx (hb hby own_d9_39) rfl rfl (q := 40) rfl ?_
  obtain ⟨T535, X535, e535, st535⟩ := getF X527 hx hZ hown (host := "") (Or.inl (hw _ (List.mem_of_getElem? (i := 91) rfl))) Via.refl e527 F_o0_words_530 (g := (mkF m 40 #[.val (.ref o0), .val (.int (2 : Int32)), .val (.ref o2), .val (.int (1 : Int32))] [(.ref o0)])) rfl rfl (hb hby own_d9_40)
  refine own_back st535 ?_
  show own_End p e below s _ _ _ (T535.setTop (mkF m 43 #[.val (.ref o0), .val (.int (2 : Int32)), .val (.ref o2), .val (.int (1 : Int32))] [(.ref b493)]))
  refine own_iloadN X535 hx (hb hby own_d9_43) rfl (q := 44) rfl ?_
  refine own_bipush X535 hx (hb hby own_d9_44) (z := 6) rfl (q := 46) rfl ?_
  refine own_iushr X535 hx (hb hby own_d9_46) (q := 47) rfl ?_
  show own_End p e below s _ _ _ (T535.setTop (mkF m 47 #[.val (.ref o0), .val (.int (2 : Int32)), .val (.ref o2), .val (.int (1 : Int32))] [(.int (0 : Int32)), (.ref b493)]))
  refine own_back (fun _ k => ?_) (b := T535.setTop (mkF m 48 #[.val (.ref o0), .val (.int (2 : Int32)), .val (.ref o2), .val (.int (1 : Int32))] [(.int (0 : Int32)), (.ref b493), (.int (0 : Int32)), (.ref b493)])) ?_
  · jvm_step X535.here [X535.here.top, hx, (hb hby own_d9_47), Value.category]
    exact k
  obtain ⟨cl536, Ar536, q536, S536, N536v, H536, G536⟩ := id V_b493_527
  have hin536 : ¬ ((0 : Int32) < 0 ∨ cl536.slots.size ≤ ((0 : Int32)).toNatClampNeg) := inb_of S536 ⟨by decide, by decide⟩
  refine own_back (X535.laload hx (j := (0 : Int32)) (v := (.long (1 : Int64))) (by rw [e535]; exact Ar536.1) (State.isArrayOf_alike hZ.alike Ar536.2.1) Ar536.2.2 hin536 (Has.at H536 hin536 rfl) (g := (mkF m 48 #[.val (.ref o0), .val (.int (2 : Int32)), .val (.ref o2), .val (.int (1 : Int32))] [(.int (0 : Int32)), (.ref b493), (.int (0 : Int32)), (.ref b493)])) rfl rfl (hb hby own_d9_48)) ?_
  show own_End p e below s _ _ _ (T535.setTop (mkF m 49 #[.val (.ref o0), .val (.int (2 : Int32)), .val (.ref o2), .val (.int (1 : Int32))] [(.long (1 : Int64)), (.int (0 : Int32)), (.ref b493)]))
  refine own_lconst X535 hx (hb hby own_d9_49) (z := 1) rfl (q := 50) rfl ?_
  refine own_iloadN X535 hx (hb hby own_d9_50) rfl (q := 51) rfl ?_
  refine own_lshl X535 hx (hb hby own_d9_51) (q := 52) rfl ?_
  show own_End p e below s _ _ _ (T535.setTop (mkF m 52 #[.val (.ref o0), .val (.int (2 : Int32)), .val (.ref o2), .val (.int (1 : Int32))] [(.long (2 : Int64)), (.long (1 : Int64)), (.int (0 : Int32)), (.ref b493)]))
  refine own_lor X535 hx (hb hby own_d9_52) (q := 53) rfl ?_
  show own_End p e below s _ _ _ (T535.setTop (mkF m 53 #[.val (.ref o0), .val (.int (2 : Int32)), .val (.ref o2), .val (.int (1 : Int32))] [(.long (3 : Int64)), (.int (0 : Int32)), (.ref b493)]))
  obtain ⟨cl537, Ar537, q537, S537, N537v, H537, G537⟩ := id V_b493_527
  have hin537 : ¬ ((0 : Int32) < 0 ∨ cl537.slots.size ≤ ((0 : Int32)).toNatClampNeg) := inb_of S537 ⟨by decide, by decide⟩
  obtain ⟨T537, h537, X537, e537, W537, st537⟩ := stJ X535 hx hZ e535 Ar537 (j := (0 : Int32)) hin537 (g := (mkF m 53 #[.val (.ref o0), .val (.int (2 : Int32)), .val (.ref o2), .val (.int (1 : Int32))] [(.long (3 : Int64)), (.int (0 : Int32)), (.ref b493)])) rfl rfl (hb hby own_d9_53)
  have V_b493_537 : Arv Z h537 b493 k493 .long (1 : Int32) [(.long (3 : Int64))] (.long (0 : Int64)) := Arv.set Ar537 q537 S537 N537v H537 G537 rfl W537 0 rfl (Nat.le_of_ble_eq_true rfl)
  have E_o0_538 := E_o0_528.wr W537
  have F_o0_trail_539 := F_o0_trail_529.other W537 (Or.inl ne_o0_b493)
  have F_o0_words_540 := F_o0_words_530.other W537 (Or.inl ne_o0_b493)
  have F_o0_initialSize_541 := F_o0_initialSize_531.other W537 (Or.inl ne_o0_b493)
  have F_o0_size_542 := F_o0_size_532.other W537 (Or.inl ne_o0_b493)
  have Kp543 : Keep h0 _ [o0] := Kp533.wr W537 (Or.inr sz_b493)
  have Z544 := Nat.le_trans Z534 (Keep.of_wr W537).1
  obtain ⟨L537, X537, N537⟩ := own_gl X537 (Fr.snoc X537 N527 g_b493)
  refine own_back st537 ?_
  show own_End p e below s _ _ _ (T537.setTop (mkF m 54 #[.val (.ref o0), .val (.int (2 : Int32)), .val (.ref o2), .val (.int (1 : Int32))] []))
  refine own_iinc X537 hx (hb hby own_d9_54) rfl (z := 1) rfl (l' := #[.val (.ref o0), .val (.int (2 : Int32)), .val (.ref o2), .val (.int (2 : Int32))]) rfl (q := 57) rfl ?_
  refine own_goto X537 hx (hb hby own_d9_57) (q := 34) (by decide) (by decide) ?_
  refine own_iloadN X537 hx (hb hby own_d9_34) rfl (q := 35) rfl ?_
  refine own_iloadN X537 hx (hb hby own_d9_35) rfl (q := 36) rfl ?_
  refine own_icY X537 hx (hb hby own_d9_36) (flt (by decide : ¬ ((2 : Int32) < (2 : Int32)))).2.1 (q := 60) (by decide) (by decide) ?_
  refine own_retV X537 hx Bd.returns Bd.notSynchronized (by decide) (by decide) (hb hby own_d9_60) ?_
  show own_Q9_2 Z o0 o2 w_o0_trail w_o0_words w_o0_initialSize w_o0_size h0 n0 _ T537.heap _
  rw [e537]
  exact ⟨rfl, N537, Kp543, E_o0_538⟩
def own_Q8_2 (Z : State) (o0 : Addr) (p1 : Int32) (o2 : Addr) (o3 : Addr) (o4 : Addr) (o5 : Addr) (w_o0_constraints : Value) (w_o0_index : Int32) (w_o0_name : Value) (w_o0_values : Value) (w_o0_domain : Value) (w_o0_assignmentListeners : Value) (k_o3 : ClassId) (w_o3_0 : Int32) (w_o3_1 : Int32) (sa : Addr) (h0 : Heap) (n0 : Nat) (v : Option Value) (h : Heap) (L : List Loc) : Prop := v = none ∧ Fr n0 L ∧ Keep h0 h [o0] ∧ ∃ (b614 : Addr) (k_o3 : ClassId), h0.size ≤ b614 ∧ Exa Z h o0 "com/example/arcwise/arcwise/network/Variable" ∧ Fld Z h o0 "com/example/arcwise/arcwise/network/Variable" "values" "[I" (.ref b614) ∧ Exa Z h b614 "[I" ∧ Arv Z h b614 k_o3 .int (2 : Int32) [(.int w_o3_0), (.int w_o3_1)] (.int (0 : Int32))
theorem own_pn_rm8_2 : plainName "com/example/arcwise/arcwise/network/Variable" = true := by first | (simp [plainName, overriddenIn]; done) | decide +kernel
theorem own_ef_rm8_2 (m : MethodId) (o0 : Addr) (p1 : Int32) (o2 : Addr) (o3 : Addr) (o4 : Addr) (o5 : Addr) : entryFrame m #[(.ref o0), (.int p1), (.ref o2), (.ref o3), (.ref o4), (.ref o5)] 6 = mkF m 0 #[.val (.ref o0), .val (.int p1), .val (.ref o2), .val (.ref o3), .val (.ref o4), .val (.ref o5)] [] := by first | (simp [entryFrame, mkF, argsToLocals, Value.category]; done) | rfl
set_option maxRecDepth 65536 in
set_option maxHeartbeats 40000000 in
theorem own_rm8_2 (l : Launch) (Z : State) (a0 : Array Value) (hw : ∀ d ∈ tables_1, d.before a0 Z = true) (ws : List Jvm.Cond) (o0 : Addr) (p1 : Int32) (o2 : Addr) (o3 : Addr) (o4 : Addr) (o5 : Addr) (w_o0_constraints : Value) (w_o0_index : Int32) (w_o0_name : Value) (w_o0_values : Value) (w_o0_domain : Value) (w_o0_assignmentListeners : Value) (k_o3 : ClassId) (w_o3_0 : Int32) (w_o3_1 : Int32) (sa : Addr) (h0 : Heap) (n0 : Nat) (Z0 : n0 ≤ h0.size) (E_o0 : Exa Z h0 o0 "com/example/arcwise/arcwise/network/Variable") (F_o0_constraints : Fld Z h0 o0 "com/example/arcwise/arcwise/network/Variable" "constraints" "Ljava/util/List;" w_o0_constraints) (F_o0_index : Fld Z h0 o0 "com/example/arcwise/arcwise/network/Variable" "index" "I" (.int w_o0_index)) (F_o0_name : Fld Z h0 o0 "com/example/arcwise/arcwise/network/Variable" "name" "Ljava/lang/String;" w_o0_name) (F_o0_values : Fld Z h0 o0 "com/example/arcwise/arcwise/network/Variable" "values" "[I" w_o0_values) (F_o0_domain : Fld Z h0 o0 "com/example/arcwise/arcwise/network/Variable" "domain" "Lcom/example/arcwise/arcwise/network/Domain;" w_o0_domain) (F_o0_assignmentListeners : Fld Z h0 o0 "com/example/arcwise/arcwise/network/Variable" "assignmentListeners" "Ljava/util/List;" w_o0_assignmentListeners) (V_o3 : Arv Z h0 o3 k_o3 .int (2 : Int32) [(.int w_o3_0), (.int w_o3_1)] (.int (0 : Int32))) (E_o3 : Exa Z h0 o3 "[I") (ne_o0_o3 : o0 ≠ o3) (S_dc : Sta Z h0 "java/util/ArrayList" "DEFAULTCAPACITY_EMPTY_ELEMENTDATA" "[Ljava/lang/Object;" (.ref sa)) (g_o0 : n0 ≤ o0) :
    MetFree l (⟨"com/example/arcwise/arcwise/network/Variable", "<init>", "(ILjava/lang/String;[ILcom/example/arcwise/arcwise/network/Trail;Ljava/util/List;)V"⟩ : MethodName) (head1 (Jvm.Cond.code (⟨"com/example/arcwise/arcwise/network/Variable", "<init>", "(ILjava/lang/String;[ILcom/example/arcwise/arcwise/network/Trail;Ljava/util/List;)V"⟩ : MethodName) prog_62_method_1_code 6 none :: ws) ({ frames := 4, cells := 4, slots := 11, locals := 50 } : Room)) (fun a U => a = #[(.ref o0), (.int p1), (.ref o2), (.ref o3), (.ref o4), (.ref o5)] ∧ Z.Warmed39 U.vm ∧ U.heap = h0) (fun _ _ _ _ _ => True) (fun _ U o U' => ∃ v L, o = .returned v ∧ own_Q8_2 Z o0 p1 o2 o3 o4 o5 w_o0_constraints w_o0_index w_o0_name w_o0_values w_o0_domain w_o0_assignmentListeners k_o3 w_o3_0 w_o3_1 sa h0 n0 v U'.heap L ∧ FrameEnd U o U' L ({ frames := 4, cells := 4, slots := 11, locals := 50 } : Room).cells ({ frames := 4, cells := 4, slots := 11, locals := 50 } : Room).slots) := by
  refine MetFree.of_bodySF (plainFor_of_name own_pn_rm8_2) hisR ?_
  intro p e s m args below meth c s₁ Bd hml0 hP hK
  obtain ⟨rfl, hZ, hh⟩ := hP
  have hx := Bd.exec
  have hby := Bd.bytes
  have hml : c.maxLocals = 6 := hml0
  have hown : s.vm.findClass "com/example/arcwise/arcwise/network/Variable" = some m.cls := findClass_of_methodNamed Bd.named
  have hnm := (name_of_methodNamed Bd.named Bd.method).1
  have X0 : Stand p l e ({ frames := 4, cells := 4, slots := 11, locals := 50 } : Room) s m #[(.ref o0), (.int p1), (.ref o2), (.ref o3), (.ref o4), (.ref o5)] below meth c s₁ [] 0 0 := Stand.of_body Bd
  have e0 : s₁.heap = h0 := by rw [← hh, Bd.state]; rfl
  have N0 := Fr.nil n0
  show own_End p e below s (own_Q8_2 Z o0 p1 o2 o3 o4 o5 w_o0_constraints w_o0_index w_o0_name w_o0_values w_o0_domain w_o0_assignmentListeners k_o3 w_o3_0 w_o3_1 sa h0 n0) ({ frames := 4, cells := 4, slots := 11, locals := 50 } : Room).cells ({ frames := 4, cells := 4, slots := 11, locals := 50 } : Room).slots (s₁.setTop (entryFrame m #[(.ref o0), (.int p1), (.ref o2), (.ref o3), (.ref o4), (.ref o5)] 6))
  rw [own_ef_rm8_2]
  refine own_aloadN X0 hx (hb hby own_d8_0) rfl rfl (q := 1) rfl ?_
  obtain ⟨T546, X546, e546, st546⟩ := initO X0 hx hZ hown (hw _ (List.mem_of_getElem? (i := 61) rfl)) (hw _ (List.mem_of_getElem? (i := 26) rfl)) (hw _ (List.mem_of_getElem? (i := 27) rfl)) e0 (g := (mkF m 1 #[.val (.ref o0), .val (.int p1), .val (.ref o2), .val (.ref o3), .val (.ref o4), .val (.ref o5)] [(.ref o0)])) rfl (by rw [hml]; rfl) rfl (hb hby own_d8_1) (by decide) (W := 0) (by show 2 * 0 + _ ≤ _; exact Nat.le_of_eq rfl) (by decide)
  refine own_back st546 ?_
  show own_End p e below s _ _ _ (T546.setTop (mkF m 4 #[.val (.ref o0), .val (.int p1), .val (.ref o2), .val (.ref o3), .val (.ref o4), .val (.ref o5)] []))
  refine own_aloadN X546 hx (hb hby own_d8_4) rfl rfl (q := 5) rfl ?_
  obtain ⟨T547, h547, X547, e547, E547, A547, D547, -, st547⟩ := newO X546 hx hZ hown (hw _ (List.mem_of_getElem? (i := 62) rfl)) (hw _ (List.mem_of_getElem? (i := 35) rfl)) (hw _ (List.mem_of_getElem? (i := 36) rfl)) e546 (g := (mkF m 5 #[.val (.ref o0), .val (.int p1), .val (.ref o2), .val (.ref o3), .val (.ref o4), .val (.ref o5)] [(.ref o0)])) rfl (hb hby own_d8_5) (by decide) (by decide)
  obtain ⟨b547, g547⟩ : ∃ z, z = h0.size := ⟨_, rfl⟩
  have ne_o0_b547 : o0 ≠ b547 := Nat.ne_of_lt (Nat.lt_of_lt_of_le E_o0.lt (Nat.le_of_eq g547.symm))
  have ne_o3_b547 : o3 ≠ b547 := Nat.ne_of_lt (Nat.lt_of_lt_of_le V_o3.lt (Nat.le_of_eq g547.symm))
  have g_b547 : n0 ≤ b547 := Nat.le_trans Z0 (Nat.le_of_eq g547.symm)
  have sz_b547 : h0.size ≤ b547 := Nat.le_trans (Keep.refl h0 [o0]).1 (Nat.le_of_eq g547.symm)
  have Z548 := Nat.le_trans Z0 E547.1
  rw [← g547] at A547 D547 st547
  have S_dc_549 := S_dc.ext E547
  have E_o0_550 := E_o0.ext E547
  have F_o0_constraints_551 := F_o0_constraints.ext E547
  have F_o0_index_552 := F_o0_index.ext E547
  have F_o0_name_553 := F_o0_name.ext E547
  have F_o0_values_554 := F_o0_values.ext E547
  have F_o0_domain_555 := F_o0_domain.ext E547
  have F_o0_assignmentListeners_556 := F_o0_assignmentListeners.ext E547
  have V_o3_557 := V_o3.ext E547
  have E_o3_558 := E_o3.ext E547
  have Kp559 : Keep h0 _ [o0] := (Keep.refl h0 [o0]).ext E547
  have F_b547_modCount : Fld Z h547 b547 "java/util/AbstractList" "modCount" "I" (.int (0 : Int32)) := D547 (Or.inl (hw _ (List.mem_of_getElem? (i := 54) rfl))) (ty := .int) (by decide)
  have F_b547_elementData : Fld Z h547 b547 "java/util/ArrayList" "elementData" "[Ljava/lang/Object;" .null := D547 (Or.inl (hw _ (List.mem_of_getElem? (i := 57) rfl))) (ty := (.array (.object "java/lang/Object"))) (by decide)
  refine own_back st547 ?_
  show own_End p e below s _ _ _ (T547.setTop (mkF m 8 #[.val (.ref o0), .val (.int p1), .val (.ref o2), .val (.ref o3), .val (.ref o4), .val (.ref o5)] [(.ref b547), (.ref o0)]))
  refine own_dup X547 hx (hb hby own_d8_8) rfl (q := 9) rfl ?_
  obtain ⟨T560, Lc560, L560, X560, N560, hQ560, st560⟩ := own_shutV (val := none) (Q := own_Q5 Z b547 (0 : Int32) .null sa h547 n0) (rc := 0) (rs := 0) N0 (fun _ _ _ q => ⟨q.1, q.2.1⟩) (X547.specialBack hx (y := (⟨"java/util/ArrayList", "<init>", "()V"⟩ : MethodName)) rfl hown (mvT hZ (hw _ (List.mem_of_getElem? (i := 63) rfl))) (mvT hZ (hw _ (List.mem_of_getElem? (i := 38) rfl))) (mvT hZ (hw _ (List.mem_of_getElem? (i := 39) rfl))) (by decide) (backOf (W := 2) (own_rm5 l Z a0 hw [] b547 (0 : Int32) .null sa h547 n0 Z548 A547 F_b547_modCount F_b547_elementData S_dc_549 g_b547) hZ (hw _ (List.mem_of_getElem? (i := 39) rfl)) (hw _ (List.mem_of_getElem? (i := 36) rfl)) (by decide) (by decide)) (g := (mkF m 9 #[.val (.ref o0), .val (.int p1), .val (.ref o2), .val (.ref o3), .val (.ref o4), .val (.ref o5)] [(.ref b547), (.ref b547), (.ref o0)])) rfl (by rw [hml]; rfl) (Steps.refl _) (a := b547) (argsL := []) (rest := [(.ref b547), (.ref o0)]) (lenOf own_pd0 rfl) rfl (by show 2 * 0 + _ ≤ _; exact Nat.le_of_eq rfl) (hb hby own_d8_9) (fun _ _ => ⟨rfl, e547, (by decide : 1 + 0 ≤ _), (by decide : 3 + 0 ≤ _)⟩))
  obtain ⟨-, -, K560, Q560_0⟩ := hQ560
  have S_dc_561 := own_StaK S_dc_549 K560 (allS (P := fun o => ∃ C, Exa Z _ o C) ⟨_, A547⟩ all0)
  have E_o0_562 := E_o0_550.keep K560
  have F_o0_constraints_563 := F_o0_constraints_551.keep K560 (ninS ne_o0_b547 nin0)
  have F_o0_index_564 := F_o0_index_552.keep K560 (ninS ne_o0_b547 nin0)
  have F_o0_name_565 := F_o0_name_553.keep K560 (ninS ne_o0_b547 nin0)
  have F_o0_values_566 := F_o0_values_554.keep K560 (ninS ne_o0_b547 nin0)
  have F_o0_domain_567 := F_o0_domain_555.keep K560 (ninS ne_o0_b547 nin0)
  have F_o0_assignmentListeners_568 := F_o0_assignmentListeners_556.keep K560 (ninS ne_o0_b547 nin0)
  have V_o3_569 := V_o3_557.keep K560 (ninS ne_o3_b547 nin0)
  have E_o3_570 := E_o3_558.keep K560
  have A547_571 := A547.keep K560
  have Kp572 : Keep h0 _ [o0] := Kp559.trans K560 (allS (Or.inr sz_b547) all0)
  have Z573 := Nat.le_trans Z548 K560.1
  refine own_via st560 ?_
  show own_End p e below s _ _ _ (T560.setTop (mkF m 12 #[.val (.ref o0), .val (.int p1), .val (.ref o2), .val (.ref o3), .val (.ref o4), .val (.ref o5)] [(.ref b547), (.ref o0)]))
  obtain ⟨T574, h574, X574, e574, W574, st574⟩ := putF X560 hx hZ hown (host := "") (Or.inl (hw _ (List.mem_of_getElem? (i := 64) rfl))) Via.refl rfl F_o0_constraints_563 E_o0_562 (Or.inr ⟨(hw _ (List.mem_of_getElem? (i := 65) rfl)), rfl, hnm⟩) (hw _ (List.mem_of_getElem? (i := 9) rfl)) (ty := (.object "java/util/List")) (by decide) rfl rfl (g := (mkF m 12 #[.val (.ref o0), .val (.int p1), .val (.ref o2), .val (.ref o3), .val (.ref o4), .val (.ref o5)] [(.ref b547), (.ref o0)])) rfl rfl (hb hby own_d8_12)
  have F_o0_constraints_574 := F_o0_constraints_563.same W574
  have S_dc_575 := S_dc_561.wr W574
  have E_o0_576 := E_o0_562.wr W574
  have F_o0_index_577 := F_o0_index_564.other W574 (Or.inr (slot_ne (Or.inr (hw _ (List.mem_of_getElem? (i := 67) rfl))) (Or.inr (hw _ (List.mem_of_getElem? (i := 65) rfl))) (by decide) (t := .int) (t' := (.object "java/util/List")) (by decide) (by decide)))
  have F_o0_name_578 := F_o0_name_565.other W574 (Or.inr (slot_ne (Or.inr (hw _ (List.mem_of_getElem? (i := 69) rfl))) (Or.inr (hw _ (List.mem_of_getElem? (i := 65) rfl))) (by decide) (t := (.object "java/lang/String")) (t' := (.object "java/util/List")) (by decide) (by decide)))
  have F_o0_values_579 := F_o0_values_566.other W574 (Or.inr (slot_ne (Or.inr (hw _ (List.mem_of_getElem? (i := 80) rfl))) (Or.inr (hw _ (List.mem_of_getElem? (i := 65) rfl))) (by decide) (t := (.array .int)) (t' := (.object "java/util/List")) (by decide) (by decide)))
  have F_o0_domain_580 := F_o0_domain_567.other W574 (Or.inr (slot_ne (Or.inr (hw _ (List.mem_of_getElem? (i := 98) rfl))) (Or.inr (hw _ (List.mem_of_getElem? (i := 65) rfl))) (by decide) (t := (.object "com/example/arcwise/arcwise/network/Domain")) (t' := (.object "java/util/List")) (by decide) (by decide)))
  have F_o0_assignmentListeners_581 := F_o0_assignmentListeners_568.other W574 (Or.inr (slot_ne (Or.inr (hw _ (List.mem_of_getElem? (i := 100) rfl))) (Or.inr (hw _ (List.mem_of_getElem? (i := 65) rfl))) (by decide) (t := (.object "java/util/List")) (t' := (.object "java/util/List")) (by decide) (by decide)))
  have V_o3_582 := V_o3_569.other W574 (Ne.symm ne_o0_o3)
  have E_o3_583 := E_o3_570.wr W574
  have Q560_584 := Q560_0.wr W574
  have Kp585 : Keep h0 _ [o0] := Kp572.wr W574 (Or.inl (List.mem_of_getElem? (i := 0) rfl))
  have Z586 := Nat.le_trans Z573 (Keep.of_wr W574).1
  obtain ⟨L574, X574, N574⟩ := own_gl X574 (Fr.snoc X574 N560 g_o0)
  refine own_back st574 ?_
  show own_End p e below s _ _ _ (T574.setTop (mkF m 15 #[.val (.ref o0), .val (.int p1), .val (.ref o2), .val (.ref o3), .val (.ref o4), .val (.ref o5)] []))
  refine own_aloadN X574 hx (hb hby own_d8_15) rfl rfl (q := 16) rfl ?_
  refine own_iloadN X574 hx (hb hby own_d8_16) rfl (q := 17) rfl ?_
  obtain ⟨T587, h587, X587, e587, W587, st587⟩ := putF X574 hx hZ hown (host := "") (Or.inl (hw _ (List.mem_of_getElem? (i := 66) rfl))) Via.refl e574 F_o0_index_577 E_o0_576 (Or.inr ⟨(hw _ (List.mem_of_getElem? (i := 67) rfl)), rfl, hnm⟩) (hw _ (List.mem_of_getElem? (i := 9) rfl)) (ty := .int) (by decide) rfl rfl (g := (mkF m 17 #[.val (.ref o0), .val (.int p1), .val (.ref o2), .val (.ref o3), .val (.ref o4), .val (.ref o5)] [(.int p1), (.ref o0)])) rfl rfl (hb hby own_d8_17)
  have F_o0_index_587 := F_o0_index_577.same W587
  have S_dc_588 := S_dc_575.wr W587
  have E_o0_589 := E_o0_576.wr W587
  have F_o0_constraints_590 := F_o0_constraints_574.other W587 (Or.inr (slot_ne (Or.inr (hw _ (List.mem_of_getElem? (i := 65) rfl))) (Or.inr (hw _ (List.mem_of_getElem? (i := 67) rfl))) (by decide) (t := (.object "java/util/List")) (t' := .int) (by decide) (by decide)))
  have F_o0_name_591 := F_o0_name_578.other W587 (Or.inr (slot_ne (Or.inr (hw _ (List.mem_of_getElem? (i := 69) rfl))) (Or.inr (hw _ (List.mem_of_getElem? (i := 67) rfl))) (by decide) (t := (.object "java/lang/String")) (t' := .int) (by decide) (by decide)))
  have F_o0_values_592 := F_o0_values_579.other W587 (Or.inr (slot_ne (Or.inr (hw _ (List.mem_of_getElem? (i := 80) rfl))) (Or.inr (hw _ (List.mem_of_getElem? (i := 67) rfl))) (by decide) (t := (.array .int)) (t' := .int) (by decide) (by decide)))
  have F_o0_domain_593 := F_o0_domain_580.other W587 (Or.inr (slot_ne (Or.inr (hw _ (List.mem_of_getElem? (i := 98) rfl))) (Or.inr (hw _ (List.mem_of_getElem? (i := 67) rfl))) (by decide) (t := (.object "com/example/arcwise/arcwise/network/Domain")) (t' := .int) (by decide) (by decide)))
  have F_o0_assignmentListeners_594 := F_o0_assignmentListeners_581.other W587 (Or.inr (slot_ne (Or.inr (hw _ (List.mem_of_getElem? (i := 100) rfl))) (Or.inr (hw _ (List.mem_of_getElem? (i := 67) rfl))) (by decide) (t := (.object "java/util/List")) (t' := .int) (by decide) (by decide)))
  have V_o3_595 := V_o3_582.other W587 (Ne.symm ne_o0_o3)
  have E_o3_596 := E_o3_583.wr W587
  have Q560_597 := Q560_584.wr W587
  have Kp598 : Keep h0 _ [o0] := Kp585.wr W587 (Or.inl (List.mem_of_getElem? (i := 0) rfl))
  have Z599 := Nat.le_trans Z586 (Keep.of_wr W587).1
  obtain ⟨L587, X587, N587⟩ := own_gl X587 (Fr.snoc X587 N574 g_o0)
  refine own_back st587 ?_
  show own_End p e below s _ _ _ (T587.setTop (mkF m 20 #[.val (.ref o0), .val (.int p1), .val (.ref o2), .val (.ref o3), .val (.ref o4), .val (.ref o5)] []))
  refine own_aloadN X587 hx (hb hby own_d8_20) rfl rfl (q := 21) rfl ?_
  refine own_aloadN X587 hx (hb hby own_d8_21) rfl rfl (q := 22) rfl ?_
  obtain ⟨T600, h600, X600, e600, W600, st600⟩ := putF X587 hx hZ hown (host := "") (Or.inl (hw _ (List.mem_of_getElem? (i := 68) rfl))) Via.refl e587 F_o0_name_591 E_o0_589 (Or.inr ⟨(hw _ (List.mem_of_getElem? (i := 69) rfl)), rfl, hnm⟩) (hw _ (List.mem_of_getElem? (i := 9) rfl)) (ty := (.object "java/lang/String")) (by decide) rfl rfl (g := (mkF m 22 #[.val (.ref o0), .val (.int p1), .val (.ref o2), .val (.ref o3), .val (.ref o4), .val (.ref o5)] [(.ref o2), (.ref o0)])) rfl rfl (hb hby own_d8_22)
  have F_o0_name_600 := F_o0_name_591.same W600
  have S_dc_601 := S_dc_588.wr W600
  have E_o0_602 := E_o0_589.wr W600
  have F_o0_constraints_603 := F_o0_constraints_590.other W600 (Or.inr (slot_ne (Or.inr (hw _ (List.mem_of_getElem? (i := 65) rfl))) (Or.inr (hw _ (List.mem_of_getElem? (i := 69) rfl))) (by decide) (t := (.object "java/util/List")) (t' := (.object "java/lang/String")) (by decide) (by decide)))
  have F_o0_index_604 := F_o0_index_587.other W600 (Or.inr (slot_ne (Or.inr (hw _ (List.mem_of_getElem? (i := 67) rfl))) (Or.inr (hw _ (List.mem_of_getElem? (i := 69) rfl))) (by decide) (t := .int) (t' := (.object "java/lang/String")) (by decide) (by decide)))
  have F_o0_values_605 := F_o0_values_592.other W600 (Or.inr (slot_ne (Or.inr (hw _ (List.mem_of_getElem? (i := 80) rfl))) (Or.inr (hw _ (List.mem_of_getElem? (i := 69) rfl))) (by decide) (t := (.array .int)) (t' := (.object "java/lang/String")) (by decide) (by decide)))
  have F_o0_domain_606 := F_o0_domain_593.other W600 (Or.inr (slot_ne (Or.inr (hw _ (List.mem_of_getElem? (i := 98) rfl))) (Or.inr (hw _ (List.mem_of_getElem? (i := 69) rfl))) (by decide) (t := (.object "com/example/arcwise/arcwise/network/Domain")) (t' := (.object "java/lang/String")) (by decide) (by decide)))
  have F_o0_assignmentListeners_607 := F_o0_assignmentListeners_594.other W600 (Or.inr (slot_ne (Or.inr (hw _ (List.mem_of_getElem? (i := 100) rfl))) (Or.inr (hw _ (List.mem_of_getElem? (i := 69) rfl))) (by decide) (t := (.object "java/util/List")) (t' := (.object "java/lang/String")) (by decide) (by decide)))
  have V_o3_608 := V_o3_595.other W600 (Ne.symm ne_o0_o3)
  have E_o3_609 := E_o3_596.wr W600
  have Q560_610 := Q560_597.wr W600
  have Kp611 : Keep h0 _ [o0] := Kp598.wr W600 (Or.inl (List.mem_of_getElem? (i := 0) rfl))
  have Z612 := Nat.le_trans Z599 (Keep.of_wr W600).1
  obtain ⟨L600, X600, N600⟩ := own_gl X600 (Fr.snoc X600 N587 g_o0)
  refine own_back st600 ?_
  show own_End p e below s _ _ _ (T600.setTop (mkF m 25 #[.val (.ref o0), .val (.int p1), .val (.ref o2), .val (.ref o3), .val (.ref o4), .val (.ref o5)] []))
  refine own_aloadN X600 hx (hb hby own_d8_25) rfl rfl (q := 26) rfl ?_
  refine own_aloadN X600 hx (hb hby own_d8_26) rfl rfl (q := 27) rfl ?_
  obtain ⟨T614, h614, X614, e614, E614, A614, Ex614, st614⟩ := cloneH X600 hx hZ hown (hw _ (List.mem_of_getElem? (i := 70) rfl)) (hw _ (List.mem_of_getElem? (i := 71) rfl)) (hw _ (List.mem_of_getElem? (i := 75) rfl)) (hw _ (List.mem_of_getElem? (i := 73) rfl)) (hw _ (List.mem_of_getElem? (i := 74) rfl)) (hw _ (List.mem_of_getElem? (i := 76) rfl)) e600 (Arv.arh V_o3_608) E_o3_609 (g := (mkF m 27 #[.val (.ref o0), .val (.int p1), .val (.ref o2), .val (.ref o3), .val (.ref o4), .val (.ref o5)] [(.ref o3), (.ref o0)])) rfl (by rw [hml]; rfl) rfl (hb hby own_d8_27) (by decide) (W := 1) (cap := 2) (by show 2 * 0 + _ ≤ _; exact Nat.le_of_eq rfl) (by decide) (by decide) (by decide) (by decide)
  obtain ⟨b614, g614⟩ : ∃ z, z = h600.size := ⟨_, rfl⟩
  have ne_o0_b614 : o0 ≠ b614 := Nat.ne_of_lt (Nat.lt_of_lt_of_le E_o0_602.lt (Nat.le_of_eq g614.symm))
  have ne_o3_b614 : o3 ≠ b614 := Nat.ne_of_lt (Nat.lt_of_lt_of_le V_o3_608.lt (Nat.le_of_eq g614.symm))
  have ne_b547_b614 : b547 ≠ b614 := Nat.ne_of_lt (Nat.lt_of_lt_of_le Q560_610.lt (Nat.le_of_eq g614.symm))
  have g_b614 : n0 ≤ b614 := Nat.le_trans Z612 (Nat.le_of_eq g614.symm)
  have sz_b614 : h0.size ≤ b614 := Nat.le_trans Kp611.1 (Nat.le_of_eq g614.symm)
  have Z615 := Nat.le_trans Z612 E614.1
  rw [← g614] at A614 Ex614 st614
  have S_dc_616 := S_dc_601.ext E614
  have E_o0_617 := E_o0_602.ext E614
  have F_o0_constraints_618 := F_o0_constraints_603.ext E614
  have F_o0_index_619 := F_o0_index_604.ext E614
  have F_o0_name_620 := F_o0_name_600.ext E614
  have F_o0_values_621 := F_o0_values_605.ext E614
  have F_o0_domain_622 := F_o0_domain_606.ext E614
  have F_o0_assignmentListeners_623 := F_o0_assignmentListeners_607.ext E614
  have V_o3_624 := V_o3_608.ext E614
  have E_o3_625 := E_o3_609.ext E614
  have Q560_626 := Q560_610.ext E614
  have Kp627 : Keep h0 _ [o0] := Kp611.ext E614
  have V_b614 : Arv Z h614 b614 k_o3 .int (2 : Int32) [(.int w_o3_0), (.int w_o3_1)] (.int (0 : Int32)) := A614
  refine own_back st614 ?_
  show own_End p e below s _ _ _ (T614.setTop (mkF m 30 #[.val (.ref o0), .val (.int p1), .val (.ref o2), .val (.ref o3), .val (.ref o4), .val (.ref o5)] [(.ref b614), (.ref o0)]))
  obtain ⟨T628, X628, e628, st628⟩ := castY X614 hx hZ hown (hw _ (List.mem_of_getElem? (i := 77) rfl)) e614 (Ins.self Ex614) (g := (mkF m 30 #[.val (.ref o0), .val (.int p1), .val (.ref o2), .val (.ref o3), .val (.ref o4), .val (.ref o5)] [(.ref b614), (.ref o0)])) rfl rfl (hb hby own_d8_30)
  refine own_back st628 ?_
  show own_End p e below s _ _ _ (T628.setTop (mkF m 33 #[.val (.ref o0), .val (.int p1), .val (.ref o2), .val (.ref o3), .val (.ref o4), .val (.ref o5)] [(.ref b614), (.ref o0)]))
  obtain ⟨T629, h629, X629, e629, W629, st629⟩ := putF X628 hx hZ hown (host := "") (Or.inl (hw _ (List.mem_of_getElem? (i := 79) rfl))) Via.refl e628 F_o0_values_621 E_o0_617 (Or.inr ⟨(hw _ (List.mem_of_getElem? (i := 80) rfl)), rfl, hnm⟩) (hw _ (List.mem_of_getElem? (i := 9) rfl)) (ty := (.array .int)) (by decide) rfl rfl (g := (mkF m 33 #[.val (.ref o0), .val (.int p1), .val (.ref o2), .val (.ref o3), .val (.ref o4), .val (.ref o5)] [(.ref b614), (.ref o0)])) rfl rfl (hb hby own_d8_33)
  have F_o0_values_629 := F_o0_values_621.same W629
  have S_dc_630 := S_dc_616.wr W629
  have E_o0_631 := E_o0_617.wr W629
  have F_o0_constraints_632 := F_o0_constraints_618.other W629 (Or.inr (slot_ne (Or.inr (hw _ (List.mem_of_getElem? (i := 65) rfl))) (Or.inr (hw _ (List.mem_of_getElem? (i := 80) rfl))) (by decide) (t := (.object "java/util/List")) (t' := (.array .int)) (by decide) (by decide)))
  have F_o0_index_633 := F_o0_index_619.other W629 (Or.inr (slot_ne (Or.inr (hw _ (List.mem_of_getElem? (i := 67) rfl))) (Or.inr (hw _ (List.mem_of_getElem? (i := 80) rfl))) (by decide) (t := .int) (t' := (.array .int)) (by decide) (by decide)))
  have F_o0_name_634 := F_o0_name_620.other W629 (Or.inr (slot_ne (Or.inr (hw _ (List.mem_of_getElem? (i := 69) rfl))) (Or.inr (hw _ (List.mem_of_getElem? (i := 80) rfl))) (by decide) (t := (.object "java/lang/String")) (t' := (.array .int)) (by decide) (by decide)))
  have F_o0_domain_635 := F_o0_domain_622.other W629 (Or.inr (slot_ne (Or.inr (hw _ (List.mem_of_getElem? (i := 98) rfl))) (Or.inr (hw _ (List.mem_of_getElem? (i := 80) rfl))) (by decide) (t := (.object "com/example/arcwise/arcwise/network/Domain")) (t' := (.array .int)) (by decide) (by decide)))
  have F_o0_assignmentListeners_636 := F_o0_assignmentListeners_623.other W629 (Or.inr (slot_ne (Or.inr (hw _ (List.mem_of_getElem? (i := 100) rfl))) (Or.inr (hw _ (List.mem_of_getElem? (i := 80) rfl))) (by decide) (t := (.object "java/util/List")) (t' := (.array .int)) (by decide) (by decide)))
  have V_o3_637 := V_o3_624.other W629 (Ne.symm ne_o0_o3)
  have E_o3_638 := E_o3_625.wr W629
  have Q560_639 := Q560_626.wr W629
  have V_b614_640 := V_b614.other W629 (Ne.symm ne_o0_b614)
  have Ex614_641 := Ex614.wr W629
  have Kp642 : Keep h0 _ [o0] := Kp627.wr W629 (Or.inl (List.mem_of_getElem? (i := 0) rfl))
  have Z643 := Nat.le_trans Z615 (Keep.of_wr W629).1
  obtain ⟨L629, X629, N629⟩ := own_gl X629 (Fr.snoc X629 N600 g_o0)
  refine own_back st629 ?_
  show own_End p e below s _ _ _ (T629.setTop (mkF m 36 #[.val (.ref o0), .val (.int p1), .val (.ref o2), .val (.ref o3), .val (.ref o4), .val (.ref o5)] []))
  refine own_aloadN X629 hx (hb hby own_d8_36) rfl rfl (q := 37) rfl ?_
  obtain ⟨T644, h644, X644, e644, E644, A644, D644, -, st644⟩ := newO X629 hx hZ hown (hw _ (List.mem_of_getElem? (i := 81) rfl)) (hw _ (List.mem_of_getElem? (i := 82) rfl)) (hw _ (List.mem_of_getElem? (i := 83) rfl)) e629 (g := (mkF m 37 #[.val (.ref o0), .val (.int p1), .val (.ref o2), .val (.ref o3), .val (.ref o4), .val (.ref o5)] [(.ref o0)])) rfl (hb hby own_d8_37) (by decide) (by decide)
  obtain ⟨b644, g644⟩ : ∃ z, z = h629.size := ⟨_, rfl⟩
  have ne_o0_b644 : o0 ≠ b644 := Nat.ne_of_lt (Nat.lt_of_lt_of_le E_o0_631.lt (Nat.le_of_eq g644.symm))
  have ne_o3_b644 : o3 ≠ b644 := Nat.ne_of_lt (Nat.lt_of_lt_of_le V_o3_637.lt (Nat.le_of_eq g644.symm))
  have ne_b547_b644 : b547 ≠ b644 := Nat.ne_of_lt (Nat.lt_of_lt_of_le Q560_639.lt (Nat.le_of_eq g644.symm))
  have ne_b614_b644 : b614 ≠ b644 := Nat.ne_of_lt (Nat.lt_of_lt_of_le V_b614_640.lt (Nat.le_of_eq g644.symm))
  have g_b644 : n0 ≤ b644 := Nat.le_trans Z643 (Nat.le_of_eq g644.symm)
  have sz_b644 : h0.size ≤ b644 := Nat.le_trans Kp642.1 (Nat.le_of_eq g644.symm)
  have Z645 := Nat.le_trans Z643 E644.1
  rw [← g644] at A644 D644 st644
  have S_dc_646 := S_dc_630.ext E644
  have E_o0_647 := E_o0_631.ext E644
  have F_o0_constraints_648 := F_o0_constraints_632.ext E644
  have F_o0_index_649 := F_o0_index_633.ext E644
  have F_o0_name_650 := F_o0_name_634.ext E644
  have F_o0_values_651 := F_o0_values_629.ext E644
  have F_o0_domain_652 := F_o0_domain_635.ext E644
  have F_o0_assignmentListeners_653 := F_o0_assignmentListeners_636.ext E644
  have V_o3_654 := V_o3_637.ext E644
  have E_o3_655 := E_o3_638.ext E644
  have Q560_656 := Q560_639.ext E644
  have V_b614_657 := V_b614_640.ext E644
  have Ex614_658 := Ex614_641.ext E644
  have Kp659 : Keep h0 _ [o0] := Kp642.ext E644
  have F_b644_trail : Fld Z h644 b644 "com/example/arcwise/arcwise/network/Domain" "trail" "Lcom/example/arcwise/arcwise/network/Trail;" .null := D644 (Or.inr (hw _ (List.mem_of_getElem? (i := 89) rfl))) (ty := (.object "com/example/arcwise/arcwise/network/Trail")) (by decide)
  have F_b644_words : Fld Z h644 b644 "com/example/arcwise/arcwise/network/Domain" "words" "[J" .null := D644 (Or.inr (hw _ (List.mem_of_getElem? (i := 92) rfl))) (ty := (.array .long)) (by decide)
  have F_b644_initialSize : Fld Z h644 b644 "com/example/arcwise/arcwise/network/Domain" "initialSize" "I" (.int (0 : Int32)) := D644 (Or.inr (hw _ (List.mem_of_getElem? (i := 94) rfl))) (ty := .int) (by decide)
  have F_b644_size : Fld Z h644 b644 "com/example/arcwise/arcwise/network/Domain" "size" "I" (.int (0 : Int32)) := D644 (Or.inl (hw _ (List.mem_of_getElem? (i := 96) rfl))) (ty := .int) (by decide)
  refine own_back st644 ?_
  show own_End p e below s _ _ _ (T644.setTop (mkF m 40 #[.val (.ref o0), .val (.int p1), .val (.ref o2), .val (.ref o3), .val (.ref o4), .val (.ref o5)] [(.ref b644), (.ref o0)]))
  refine own_dup X644 hx (hb hby own_d8_40) rfl (q := 41) rfl ?_
  refine own_aloadN X644 hx (hb hby own_d8_41) rfl rfl (q := 42) rfl ?_
  obtain ⟨cl660, Ar660, q660, S660, N660v, H660, G660⟩ := id V_o3_654
  refine own_back (X644.arraylength hx (by rw [e644]; exact Ar660.1) (State.isArrayOf_alike hZ.alike Ar660.2.1) (g := (mkF m 42 #[.val (.ref o0), .val (.int p1), .val (.ref o2), .val (.ref o3), .val (.ref o4), .val (.ref o5)] [(.ref o3), (.ref b644), (.ref b644), (.ref o0)])) rfl rfl (hb hby own_d8_42)) ?_
  rw [len_of S660 N660v]
  show own_End p e below s _ _ _ (T644.setTop (mkF m 43 #[.val (.ref o0), .val (.int p1), .val (.ref o2), .val (.ref o3), .val (.ref o4), .val (.ref o5)] [(.int (2 : Int32)), (.ref b644), (.ref b644), (.ref o0)]))
  refine own_aload X644 hx (hb hby own_d8_43) rfl rfl (q := 45) rfl ?_
  obtain ⟨T661, Lc661, L661, X661, N661, hQ661, st661⟩ := own_shutV (val := none) (Q := own_Q9_2 Z b644 o4 .null .null (0 : Int32) (0 : Int32) h644 n0) (rc := 1) (rs := 1) N629 (fun _ _ _ q => ⟨q.1, q.2.1⟩) (X644.specialBack hx (y := (⟨"com/example/arcwise/arcwise/network/Domain", "<init>", "(ILcom/example/arcwise/arcwise/network/Trail;)V"⟩ : MethodName)) rfl hown (mvT hZ (hw _ (List.mem_of_getElem? (i := 84) rfl))) (mvT hZ (hw _ (List.mem_of_getElem? (i := 85) rfl))) (mvT hZ (hw _ (List.mem_of_getElem? (i := 86) rfl))) (by decide) (backOf (W := 2) (own_rm9_2 l Z a0 hw [] b644 o4 .null .null (0 : Int32) (0 : Int32) h644 n0 Z645 A644 F_b644_trail F_b644_words F_b644_initialSize F_b644_size g_b644) hZ (hw _ (List.mem_of_getElem? (i := 86) rfl)) (hw _ (List.mem_of_getElem? (i := 83) rfl)) (by decide) (by decide)) (g := (mkF m 45 #[.val (.ref o0), .val (.int p1), .val (.ref o2), .val (.ref o3), .val (.ref o4), .val (.ref o5)] [(.ref o4), (.int (2 : Int32)), (.ref b644), (.ref b644), (.ref o0)])) rfl (by rw [hml]; rfl) (Steps.refl _) (a := b644) (argsL := [(.int (2 : Int32)), (.ref o4)]) (rest := [(.ref b644), (.ref o0)]) (lenOf own_pd1 rfl) rfl (by show 2 * 0 + _ ≤ _; exact Nat.le_of_eq rfl) (hb hby own_d8_45) (fun _ _ => ⟨rfl, e644, (by decide : 3 + 1 ≤ _), (by decide : 10 + 1 ≤ _)⟩))
  obtain ⟨-, -, K661, Q661_0⟩ := hQ661
  have S_dc_662 := own_StaK S_dc_646 K661 (allS (P := fun o => ∃ C, Exa Z _ o C) ⟨_, A644⟩ all0)
  have E_o0_663 := E_o0_647.keep K661
  have F_o0_constraints_664 := F_o0_constraints_648.keep K661 (ninS ne_o0_b644 nin0)
  have F_o0_index_665 := F_o0_index_649.keep K661 (ninS ne_o0_b644 nin0)
  have F_o0_name_666 := F_o0_name_650.keep K661 (ninS ne_o0_b644 nin0)
  have F_o0_values_667 := F_o0_values_651.keep K661 (ninS ne_o0_b644 nin0)
  have F_o0_domain_668 := F_o0_domain_652.keep K661 (ninS ne_o0_b644 nin0)
  have F_o0_assignmentListeners_669 := F_o0_assignmentListeners_653.keep K661 (ninS ne_o0_b644 nin0)
  have V_o3_670 := V_o3_654.keep K661 (ninS ne_o3_b644 nin0)
  have E_o3_671 := E_o3_655.keep K661
  have Q560_672 := Q560_656.keep K661
  have V_b614_673 := V_b614_657.keep K661 (ninS ne_b614_b644 nin0)
  have Ex614_674 := Ex614_658.keep K661
  have A644_675 := A644.keep K661
  have Kp676 : Keep h0 _ [o0] := Kp659.trans K661 (allS (Or.inr sz_b644) all0)
  have Z677 := Nat.le_trans Z645 K661.1
  refine own_via st661 ?_
  show own_End p e below s _ _ _ (T661.setTop (mkF m 48 #[.val (.ref o0), .val (.int p1), .val (.ref o2), .val (.ref o3), .val (.ref o4), .val (.ref o5)] [(.ref b644), (.ref o0)]))
  obtain ⟨T678, h678, X678, e678, W678, st678⟩ := putF X661 hx hZ hown (host := "") (Or.inl (hw _ (List.mem_of_getElem? (i := 97) rfl))) Via.refl rfl F_o0_domain_668 E_o0_663 (Or.inr ⟨(hw _ (List.mem_of_getElem? (i := 98) rfl)), rfl, hnm⟩) (hw _ (List.mem_of_getElem? (i := 9) rfl)) (ty := (.object "com/example/arcwise/arcwise/network/Domain")) (by decide) rfl rfl (g := (mkF m 48 #[.val (.ref o0), .val (.int p1), .val (.ref o2), .val (.ref o3), .val (.ref o4), .val (.ref o5)] [(.ref b644), (.ref o0)])) rfl rfl (hb hby own_d8_48)
  have F_o0_domain_678 := F_o0_domain_668.same W678
  have S_dc_679 := S_dc_662.wr W678
  have E_o0_680 := E_o0_663.wr W678
  have F_o0_constraints_681 := F_o0_constraints_664.other W678 (Or.inr (slot_ne (Or.inr (hw _ (List.mem_of_getElem? (i := 65) rfl))) (Or.inr (hw _ (List.mem_of_getElem? (i := 98) rfl))) (by decide) (t := (.object "java/util/List")) (t' := (.object "com/example/arcwise/arcwise/network/Domain")) (by decide) (by decide)))
  have F_o0_index_682 := F_o0_index_665.other W678 (Or.inr (slot_ne (Or.inr (hw _ (List.mem_of_getElem? (i := 67) rfl))) (Or.inr (hw _ (List.mem_of_getElem? (i := 98) rfl))) (by decide) (t := .int) (t' := (.object "com/example/arcwise/arcwise/network/Domain")) (by decide) (by decide)))
  have F_o0_name_683 := F_o0_name_666.other W678 (Or.inr (slot_ne (Or.inr (hw _ (List.mem_of_getElem? (i := 69) rfl))) (Or.inr (hw _ (List.mem_of_getElem? (i := 98) rfl))) (by decide) (t := (.object "java/lang/String")) (t' := (.object "com/example/arcwise/arcwise/network/Domain")) (by decide) (by decide)))
  have F_o0_values_684 := F_o0_values_667.other W678 (Or.inr (slot_ne (Or.inr (hw _ (List.mem_of_getElem? (i := 80) rfl))) (Or.inr (hw _ (List.mem_of_getElem? (i := 98) rfl))) (by decide) (t := (.array .int)) (t' := (.object "com/example/arcwise/arcwise/network/Domain")) (by decide) (by decide)))
  have F_o0_assignmentListeners_685 := F_o0_assignmentListeners_669.other W678 (Or.inr (slot_ne (Or.inr (hw _ (List.mem_of_getElem? (i := 100) rfl))) (Or.inr (hw _ (List.mem_of_getElem? (i := 98) rfl))) (by decide) (t := (.object "java/util/List")) (t' := (.object "com/example/arcwise/arcwise/network/Domain")) (by decide) (by decide)))
  have V_o3_686 := V_o3_670.other W678 (Ne.symm ne_o0_o3)
  have E_o3_687 := E_o3_671.wr W678
  have Q560_688 := Q560_672.wr W678
  have V_b614_689 := V_b614_673.other W678 (Ne.symm ne_o0_b614)
  have Ex614_690 := Ex614_674.wr W678
  have Q661_691 := Q661_0.wr W678
  have Kp692 : Keep h0 _ [o0] := Kp676.wr W678 (Or.inl (List.mem_of_getElem? (i := 0) rfl))
  have Z693 := Nat.le_trans Z677 (Keep.of_wr W678).1
  obtain ⟨L678, X678, N678⟩ := own_gl X678 (Fr.snoc X678 N661 g_o0)
  refine own_back st678 ?_
  show own_End p e below s _ _ _ (T678.setTop (mkF m 51 #[.val (.ref o0), .val (.int p1), .val (.ref o2), .val (.ref o3), .val (.ref o4), .val (.ref o5)] []))
  refine own_aloadN X678 hx (hb hby own_d8_51) rfl rfl (q := 52) rfl ?_
  refine own_aload X678 hx (hb hby own_d8_52) rfl rfl (q := 54) rfl ?_
  obtain ⟨T694, h694, X694, e694, W694, st694⟩ := putF X678 hx hZ hown (host := "") (Or.inl (hw _ (List.mem_of_getElem? (i := 99) rfl))) Via.refl e678 F_o0_assignmentListeners_685 E_o0_680 (Or.inr ⟨(hw _ (List.mem_of_getElem? (i := 100) rfl)), rfl, hnm⟩) (hw _ (List.mem_of_getElem? (i := 9) rfl)) (ty := (.object "java/util/List")) (by decide) rfl rfl (g := (mkF m 54 #[.val (.ref o0), .val (.int p1), .val (.ref o2), .val (.ref o3), .val (.ref o4), .val (.ref o5)] [(.ref o5), (.ref o0)])) rfl rfl (hb hby own_d8_54)
  have F_o0_assignmentListeners_694 := F_o0_assignmentListeners_685.same W694
  have S_dc_695 := S_dc_679.wr W694
  have E_o0_696 := E_o0_680.wr W694
  have F_o0_constraints_697 := F_o0_constraints_681.other W694 (Or.inr (slot_ne (Or.inr (hw _ (List.mem_of_getElem? (i := 65) rfl))) (Or.inr (hw _ (List.mem_of_getElem? (i := 100) rfl))) (by decide) (t := (.object "java/util/List")) (t' := (.object "java/util/List")) (by decide) (by decide)))
  have F_o0_index_698 := F_o0_index_682.other W694 (Or.inr (slot_ne (Or.inr (hw _ (List.mem_of_getElem? (i := 67) rfl))) (Or.inr (hw _ (List.mem_of_getElem? (i := 100) rfl))) (by decide) (t := .int) (t' := (.object "java/util/List")) (by decide) (by decide)))
  have F_o0_name_699 := F_o0_name_683.other W694 (Or.inr (slot_ne (Or.inr (hw _ (List.mem_of_getElem? (i := 69) rfl))) (Or.inr (hw _ (List.mem_of_getElem? (i := 100) rfl))) (by decide) (t := (.object "java/lang/String")) (t' := (.object "java/util/List")) (by decide) (by decide)))
  have F_o0_values_700 := F_o0_values_684.other W694 (Or.inr (slot_ne (Or.inr (hw _ (List.mem_of_getElem? (i := 80) rfl))) (Or.inr (hw _ (List.mem_of_getElem? (i := 100) rfl))) (by decide) (t := (.array .int)) (t' := (.object "java/util/List")) (by decide) (by decide)))
  have F_o0_domain_701 := F_o0_domain_678.other W694 (Or.inr (slot_ne (Or.inr (hw _ (List.mem_of_getElem? (i := 98) rfl))) (Or.inr (hw _ (List.mem_of_getElem? (i := 100) rfl))) (by decide) (t := (.object "com/example/arcwise/arcwise/network/Domain")) (t' := (.object "java/util/List")) (by decide) (by decide)))
  have V_o3_702 := V_o3_686.other W694 (Ne.symm ne_o0_o3)
  have E_o3_703 := E_o3_687.wr W694
  have Q560_704 := Q560_688.wr W694
  have V_b614_705 := V_b614_689.other W694 (Ne.symm ne_o0_b614)
  have Ex614_706 := Ex614_690.wr W694
  have Q661_707 := Q661_691.wr W694
  have Kp708 : Keep h0 _ [o0] := Kp692.wr W694 (Or.inl (List.mem_of_getElem? (i := 0) rfl))
  have Z709 := Nat.le_trans Z693 (Keep.of_wr W694).1
  obtain ⟨L694, X694, N694⟩ := own_gl X694 (Fr.snoc X694 N678 g_o0)
  refine own_back st694 ?_
  show own_End p e below s _ _ _ (T694.setTop (mkF m 57 #[.val (.ref o0), .val (.int p1), .val (.ref o2), .val (.ref o3), .val (.ref o4), .val (.ref o5)] []))
  refine own_retV X694 hx Bd.returns Bd.notSynchronized (by decide) (by decide) (hb hby own_d8_57) ?_
  show own_Q8_2 Z o0 p1 o2 o3 o4 o5 w_o0_constraints w_o0_index w_o0_name w_o0_values w_o0_domain w_o0_assignmentListeners k_o3 w_o3_0 w_o3_1 sa h0 n0 _ T694.heap _
  rw [e694]
  exact ⟨rfl, N694, Kp708, b614, k_o3, sz_b614, E_o0_696, F_o0_values_700, Ex614_706, V_b614_705⟩
def own_F10_2 (q1 : Int64) (w_w_o0_values_0 : Int32) (w_w_o0_values_1 : Int32) : Int32 := (if (w_w_o0_values_1.toInt64) < q1 then (2 : Int32) else (if (w_w_o0_values_0.toInt64) < q1 then (1 : Int32) else (0 : Int32)))
def own_Q10_2 (Z : State) (o0 : Addr) (q1 : Int64) (w_o0_values : Addr) (k_w_o0_values : ClassId) (w_w_o0_values_0 : Int32) (w_w_o0_values_1 : Int32) (h0 : Heap) (n0 : Nat) (v : Option Value) (h : Heap) (L : List Loc) : Prop := v = some (.int (own_F10_2 q1 w_w_o0_values_0 w_w_o0_values_1)) ∧ Fr n0 L ∧ h = h0
theorem own_pn_rm10_2 : plainName "com/example/arcwise/arcwise/network/Variable" = true := by first | (simp [plainName, overriddenIn]; done) | decide +kernel
theorem own_ef_rm10_2 (m : MethodId) (o0 : Addr) (q1 : Int64) : entryFrame m #[(.ref o0), (.long q1)] 6 = mkF m 0 #[.val (.ref o0), .val (.long q1), .second, .unset, .unset, .unset] [] := by first | (simp [entryFrame, mkF, argsToLocals, Value.category]; done) | rfl
set_option maxRecDepth 65536 in
set_option maxHeartbeats 40000000 in
theorem own_rm10_2 (l : Launch) (Z : State) (a0 : Array Value) (hw : ∀ d ∈ tables_1, d.before a0 Z = true) (ws : List Jvm.Cond) (o0 : Addr) (q1 : Int64) (w_o0_values : Addr) (k_w_o0_values : ClassId) (w_w_o0_values_0 : Int32) (w_w_o0_values_1 : Int32) (h0 : Heap) (n0 : Nat) (Z0 : n0 ≤ h0.size) (E_o0 : Exa Z h0 o0 "com/example/arcwise/arcwise/network/Variable") (F_o0_values : Fld Z h0 o0 "com/example/arcwise/arcwise/network/Variable" "values" "[I" (.ref w_o0_values)) (V_w_o0_values : Arv Z h0 w_o0_values k_w_o0_values .int (2 : Int32) [(.int w_w_o0_values_0), (.int w_w_o0_values_1)] (.int (0 : Int32))) :
    MetFree l (⟨"com/example/arcwise/arcwise/network/Variable", "indexAtLeast", "(J)I"⟩ : MethodName) (head1 (Jvm.Cond.code (⟨"com/example/arcwise/arcwise/network/Variable", "indexAtLeast", "(J)I"⟩ : MethodName) prog_62_method_6_code 6 (some .int) :: ws) ({ frames := 0, cells := 0, slots := 0, locals := 0 } : Room)) (fun a U => a = #[(.ref o0), (.long q1)] ∧ Z.Warmed39 U.vm ∧ U.heap = h0) (fun _ _ _ _ _ => True) (fun _ U o U' => ∃ v L, o = .returned v ∧ own_Q10_2 Z o0 q1 w_o0_values k_w_o0_values w_w_o0_values_0 w_w_o0_values_1 h0 n0 v U'.heap L ∧ FrameEnd U o U' L ({ frames := 0, cells := 0, slots := 0, locals := 0 } : Room).cells ({ frames := 0, cells := 0, slots := 0, locals := 0 } : Room).slots) := by
  refine MetFree.of_bodySF (plainFor_of_name own_pn_rm10_2) hisR ?_
  intro p e s m args below meth c s₁ Bd hml0 hP hK
  obtain ⟨rfl, hZ, hh⟩ := hP
  have hx := Bd.exec
  have hby := Bd.bytes
  have hml : c.maxLocals = 6 := hml0
  have hown : s.vm.findClass "com/example/arcwise/arcwise/network/Variable" = some m.cls := findClass_of_methodNamed Bd.named
  have hnm := (name_of_methodNamed Bd.named Bd.method).1
  have X0 : Stand p l e ({ frames := 0, cells := 0, slots := 0, locals := 0 } : Room) s m #[(.ref o0), (.long q1)] below meth c s₁ [] 0 0 := Stand.of_body Bd
  have e0 : s₁.heap = h0 := by rw [← hh, Bd.state]; rfl
  have N0 := Fr.nil n0
  show own_End p e below s (own_Q10_2 Z o0 q1 w_o0_values k_w_o0_values w_w_o0_values_0 w_w_o0_values_1 h0 n0) ({ frames := 0, cells := 0, slots := 0, locals := 0 } : Room).cells ({ frames := 0, cells := 0, slots := 0, locals := 0 } : Room).slots (s₁.setTop (entryFrame m #[(.ref o0), (.long q1)] 6))
  rw [own_ef_rm10_2]
  refine own_iconst X0 hx (hb hby own_d10_0) (z := 0) rfl (q := 1) rfl ?_
  refine own_istoreN X0 hx (hb hby own_d10_1) (l' := #[.val (.ref o0), .val (.long q1), .second, .val (.int (0 : Int32)), .unset, .unset]) rfl (q := 2) rfl ?_
  refine own_aloadN X0 hx (hb hby own_d10_2) rfl rfl (q := 3) rfl ?_
  obtain ⟨T711, X711, e711, st711⟩ := getF X0 hx hZ hown (host := "") (Or.inl (hw _ (List.mem_of_getElem? (i := 79) rfl))) Via.refl e0 F_o0_values (g := (mkF m 3 #[.val (.ref o0), .val (.long q1), .second, .val (.int (0 : Int32)), .unset, .unset] [(.ref o0)])) rfl rfl (hb hby own_d10_3)
  refine own_back st711 ?_
  show own_End p e below s _ _ _ (T711.setTop (mkF m 6 #[.val (.ref o0), .val (.long q1), .second, .val (.int (0 : Int32)), .unset, .unset] [(.ref w_o0_values)]))
  obtain ⟨cl712, Ar712, q712, S712, N712v, H712, G712⟩ := id V_w_o0_values
  refine own_back (X711.arraylength hx (by rw [e711]; exact Ar712.1) (State.isArrayOf_alike hZ.alike Ar712.2.1) (g := (mkF m 6 #[.val (.ref o0), .val (.long q1), .second, .val (.int (0 : Int32)), .unset, .unset] [(.ref w_o0_values)])) rfl rfl (hb hby own_d10_6)) ?_
  rw [len_of S712 N712v]
  show own_End p e below s _ _ _ (T711.setTop (mkF m 7 #[.val (.ref o0), .val (.long q1), .second, .val (.int (0 : Int32)), .unset, .unset] [(.int (2 : Int32))]))
  refine own_istore X711 hx (hb hby own_d10_7) (l' := #[.val (.ref o0), .val (.long q1), .second, .val (.int (0 : Int32)), .val (.int (2 : Int32)), .unset]) rfl (q := 9) rfl ?_
  refine own_iloadN X711 hx (hb hby own_d10_9) rfl (q := 10) rfl ?_
  refine own_iload X711 hx (hb hby own_d10_10) rfl (q := 12) rfl ?_
  refine own_icN X711 hx (hb hby own_d10_12) (tlt (by decide : ((0 : Int32) < (2 : Int32)))).2.1 (q := 15) rfl ?_
  refine own_iloadN X711 hx (hb hby own_d10_15) rfl (q := 16) rfl ?_
  refine own_iload X711 hx (hb hby own_d10_16) rfl (q := 18) rfl ?_
  refine own_iadd X711 hx (hb hby own_d10_18) (q := 19) rfl ?_
  show own_End p e below s _ _ _ (T711.setTop (mkF m 19 #[.val (.ref o0), .val (.long q1), .second, .val (.int (0 : Int32)), .val (.int (2 : Int32)), .unset] [(.int (2 : Int32))]))
  refine own_iconst X711 hx (hb hby own_d10_19) (z := 1) rfl (q := 20) rfl ?_
  refine own_iushr X711 hx (hb hby own_d10_20) (q := 21) rfl ?_
  show own_End p e below s _ _ _ (T711.setTop (mkF m 21 #[.val (.ref o0), .val (.long q1), .second, .val (.int (0 : Int32)), .val (.int (2 : Int32)), .unset] [(.int (1 : Int32))]))
  refine own_istore X711 hx (hb hby own_d10_21) (l' := #[.val (.ref o0), .val (.long q1), .second, .val (.int (0 : Int32)), .val (.int (2 : Int32)), .val (.int (1 : Int32))]) rfl (q := 23) rfl ?_
  refine own_aloadN X711 hx (hb hby own_d10_23) rfl rfl (q := 24) rfl ?_
  obtain ⟨T713, X713, e713, st713⟩ := getF X711 hx hZ hown (host := "") (Or.inl (hw _ (List.mem_of_getElem? (i := 79) rfl))) Via.refl e711 F_o0_values (g := (mkF m 24 #[.val (.ref o0), .val (.long q1), .second, .val (.int (0 : Int32)), .val (.int (2 : Int32)), .val (.int (1 : Int32))] [(.ref o0)])) rfl rfl (hb hby own_d10_24)
  refine own_back st713 ?_
  show own_End p e below s _ _ _ (T713.setTop (mkF m 27 #[.val (.ref o0), .val (.long q1), .second, .val (.int (0 : Int32)), .val (.int (2 : Int32)), .val (.int (1 : Int32))] [(.ref w_o0_values)]))
  refine own_iload X713 hx (hb hby own_d10_27) rfl (q := 29) rfl ?_
  obtain ⟨cl714, Ar714, q714, S714, N714v, H714, G714⟩ := id V_w_o0_values
  have hin714 : ¬ ((1 : Int32) < 0 ∨ cl714.slots.size ≤ ((1 : Int32)).toNatClampNeg) := inb_of S714 ⟨by decide, by decide⟩
  refine own_back (X713.iaload hx (j := (1 : Int32)) (v := (.int w_w_o0_values_1)) (by rw [e713]; exact Ar714.1) (State.isArrayOf_alike hZ.alike Ar714.2.1) Ar714.2.2 hin714 (Has.at H714 hin714 rfl) (g := (mkF m 29 #[.val (.ref o0), .val (.long q1), .second, .val (.int (0 : Int32)), .val (.int (2 : Int32)), .val (.int (1 : Int32))] [(.int (1 : Int32)), (.ref w_o0_values)])) rfl rfl (hb hby own_d10_29)) ?_
  show own_End p e below s _ _ _ (T713.setTop (mkF m 30 #[.val (.ref o0), .val (.long q1), .second, .val (.int (0 : Int32)), .val (.int (2 : Int32)), .val (.int (1 : Int32))] [(.int w_w_o0_values_1)]))
  refine own_i2l X713 hx (hb hby own_d10_30) (q := 31) rfl ?_
  refine own_lloadN X713 hx (hb hby own_d10_31) rfl (q := 32) rfl ?_
  by_cases hc33_715 : (w_w_o0_values_1.toInt64) < q1
  · refine own_lcN X713 hx (hb hby own_d10_32) (r := 33) rfl (hb hby own_d10_33) (own_tlt hc33_715).2.1 (q := 36) rfl ?_
    refine own_iload X713 hx (hb hby own_d10_36) rfl (q := 38) rfl ?_
    refine own_iconst X713 hx (hb hby own_d10_38) (z := 1) rfl (q := 39) rfl ?_
    refine own_iadd X713 hx (hb hby own_d10_39) (q := 40) rfl ?_
    show own_End p e below s _ _ _ (T713.setTop (mkF m 40 #[.val (.ref o0), .val (.long q1), .second, .val (.int (0 : Int32)), .val (.int (2 : Int32)), .val (.int (1 : Int32))] [(.int (2 : Int32))]))
    refine own_istoreN X713 hx (hb hby own_d10_40) (l' := #[.val (.ref o0), .val (.long q1), .second, .val (.int (2 : Int32)), .val (.int (2 : Int32)), .val (.int (1 : Int32))]) rfl (q := 41) rfl ?_
    refine own_goto X713 hx (hb hby own_d10_41) (q := 48) (by decide) (by decide) ?_
    refine own_goto X713 hx (hb hby own_d10_48) (q := 9) (by decide) (by decide) ?_
    refine own_iloadN X713 hx (hb hby own_d10_9) rfl (q := 10) rfl ?_
    refine own_iload X713 hx (hb hby own_d10_10) rfl (q := 12) rfl ?_
    refine own_icY X713 hx (hb hby own_d10_12) (flt (by decide : ¬ ((2 : Int32) < (2 : Int32)))).2.1 (q := 51) (by decide) (by decide) ?_
    refine own_iloadN X713 hx (hb hby own_d10_51) rfl (q := 52) rfl ?_
    refine own_retI X713 hx Bd.returns Bd.notSynchronized (by decide) (by decide) (hb hby own_d10_52) ?_
    show own_Q10_2 Z o0 q1 w_o0_values k_w_o0_values w_w_o0_values_0 w_w_o0_values_1 h0 n0 _ T713.heap _
    exact ⟨(by simp only [own_F10_2, if_pos hc33_715]), N0, e713⟩
  · refine own_lcY X713 hx (hb hby own_d10_32) (r := 33) rfl (hb hby own_d10_33) (own_flt hc33_715).2.1 (q := 44) (by decide) (by decide) ?_
    refine own_iload X713 hx (hb hby own_d10_44) rfl (q := 46) rfl ?_
    refine own_istore X713 hx (hb hby own_d10_46) (l' := #[.val (.ref o0), .val (.long q1), .second, .val (.int (0 : Int32)), .val (.int (1 : Int32)), .val (.int (1 : Int32))]) rfl (q := 48) rfl ?_
    refine own_goto X713 hx (hb hby own_d10_48) (q := 9) (by decide) (by decide) ?_
    refine own_iloadN X713 hx (hb hby own_d10_9) rfl (q := 10) rfl ?_
    refine own_iload X713 hx (hb hby own_d10_10) rfl (q := 12) rfl ?_
    refine own_icN X713 hx (hb hby own_d10_12) (tlt (by decide : ((0 : Int32) < (1 : Int32)))).2.1 (q := 15) rfl ?_
    refine own_iloadN X713 hx (hb hby own_d10_15) rfl (q := 16) rfl ?_
    refine own_iload X713 hx (hb hby own_d10_16) rfl (q := 18) rfl ?_
    refine own_iadd X713 hx (hb hby own_d10_18) (q := 19) rfl ?_
    show own_End p e below s _ _ _ (T713.setTop (mkF m 19 #[.val (.ref o0), .val (.long q1), .second, .val (.int (0 : Int32)), .val (.int (1 : Int32)), .val (.int (1 : Int32))] [(.int (1 : Int32))]))
    refine own_iconst X713 hx (hb hby own_d10_19) (z := 1) rfl (q := 20) rfl ?_
    refine own_iushr X713 hx (hb hby own_d10_20) (q := 21) rfl ?_
    show own_End p e below s _ _ _ (T713.setTop (mkF m 21 #[.val (.ref o0), .val (.long q1), .second, .val (.int (0 : Int32)), .val (.int (1 : Int32)), .val (.int (1 : Int32))] [(.int (0 : Int32))]))
    refine own_istore X713 hx (hb hby own_d10_21) (l' := #[.val (.ref o0), .val (.long q1), .second, .val (.int (0 : Int32)), .val (.int (1 : Int32)), .val (.int (0 : Int32))]) rfl (q := 23) rfl ?_
    refine own_aloadN X713 hx (hb hby own_d10_23) rfl rfl (q := 24) rfl ?_
    obtain ⟨T717, X717, e717, st717⟩ := getF X713 hx hZ hown (host := "") (Or.inl (hw _ (List.mem_of_getElem? (i := 79) rfl))) Via.refl e713 F_o0_values (g := (mkF m 24 #[.val (.ref o0), .val (.long q1), .second, .val (.int (0 : Int32)), .val (.int (1 : Int32)), .val (.int (0 : Int32))] [(.ref o0)])) rfl rfl (hb hby own_d10_24)
    refine own_back st717 ?_
    show own_End p e below s _ _ _ (T717.setTop (mkF m 27 #[.val (.ref o0), .val (.long q1), .second, .val (.int (0 : Int32)), .val (.int (1 : Int32)), .val (.int (0 : Int32))] [(.ref w_o0_values)]))
    refine own_iload X717 hx (hb hby own_d10_27) rfl (q := 29) rfl ?_
    obtain ⟨cl718, Ar718, q718, S718, N718v, H718, G718⟩ := id V_w_o0_values
    have hin718 : ¬ ((0 : Int32) < 0 ∨ cl718.slots.size ≤ ((0 : Int32)).toNatClampNeg) := inb_of S718 ⟨by decide, by decide⟩
    refine own_back (X717.iaload hx (j := (0 : Int32)) (v := (.int w_w_o0_values_0)) (by rw [e717]; exact Ar718.1) (State.isArrayOf_alike hZ.alike Ar718.2.1) Ar718.2.2 hin718 (Has.at H718 hin718 rfl) (g := (mkF m 29 #[.val (.ref o0), .val (.long q1), .second, .val (.int (0 : Int32)), .val (.int (1 : Int32)), .val (.int (0 : Int32))] [(.int (0 : Int32)), (.ref w_o0_values)])) rfl rfl (hb hby own_d10_29)) ?_
    show own_End p e below s _ _ _ (T717.setTop (mkF m 30 #[.val (.ref o0), .val (.long q1), .second, .val (.int (0 : Int32)), .val (.int (1 : Int32)), .val (.int (0 : Int32))] [(.int w_w_o0_values_0)]))
    refine own_i2l X717 hx (hb hby own_d10_30) (q := 31) rfl ?_
    refine own_lloadN X717 hx (hb hby own_d10_31) rfl (q := 32) rfl ?_
    by_cases hc33_719 : (w_w_o0_values_0.toInt64) < q1
    · refine own_lcN X717 hx (hb hby own_d10_32) (r := 33) rfl (hb hby own_d10_33) (own_tlt hc33_719).2.1 (q := 36) rfl ?_
      refine own_iload X717 hx (hb hby own_d10_36) rfl (q := 38) rfl ?_
      refine own_iconst X717 hx (hb hby own_d10_38) (z := 1) rfl (q := 39) rfl ?_
      refine own_iadd X717 hx (hb hby own_d10_39) (q := 40) rfl ?_
      show own_End p e below s _ _ _ (T717.setTop (mkF m 40 #[.val (.ref o0), .val (.long q1), .second, .val (.int (0 : Int32)), .val (.int (1 : Int32)), .val (.int (0 : Int32))] [(.int (1 : Int32))]))
      refine own_istoreN X717 hx (hb hby own_d10_40) (l' := #[.val (.ref o0), .val (.long q1), .second, .val (.int (1 : Int32)), .val (.int (1 : Int32)), .val (.int (0 : Int32))]) rfl (q := 41) rfl ?_
      refine own_goto X717 hx (hb hby own_d10_41) (q := 48) (by decide) (by decide) ?_
      refine own_goto X717 hx (hb hby own_d10_48) (q := 9) (by decide) (by decide) ?_
      refine own_iloadN X717 hx (hb hby own_d10_9) rfl (q := 10) rfl ?_
      refine own_iload X717 hx (hb hby own_d10_10) rfl (q := 12) rfl ?_
      refine own_icY X717 hx (hb hby own_d10_12) (flt (by decide : ¬ ((1 : Int32) < (1 : Int32)))).2.1 (q := 51) (by decide) (by decide) ?_
      refine own_iloadN X717 hx (hb hby own_d10_51) rfl (q := 52) rfl ?_
      refine own_retI X717 hx Bd.returns Bd.notSynchronized (by decide) (by decide) (hb hby own_d10_52) ?_
      show own_Q10_2 Z o0 q1 w_o0_values k_w_o0_values w_w_o0_values_0 w_w_o0_values_1 h0 n0 _ T717.heap _
      exact ⟨(by simp only [own_F10_2, if_neg hc33_715, if_pos hc33_719]), N0, e717⟩
    · refine own_lcY X717 hx (hb hby own_d10_32) (r := 33) rfl (hb hby own_d10_33) (own_flt hc33_719).2.1 (q := 44) (by decide) (by decide) ?_
      refine own_iload X717 hx (hb hby own_d10_44) rfl (q := 46) rfl ?_
      refine own_istore X717 hx (hb hby own_d10_46) (l' := #[.val (.ref o0), .val (.long q1), .second, .val (.int (0 : Int32)), .val (.int (0 : Int32)), .val (.int (0 : Int32))]) rfl (q := 48) rfl ?_
      refine own_goto X717 hx (hb hby own_d10_48) (q := 9) (by decide) (by decide) ?_
      refine own_iloadN X717 hx (hb hby own_d10_9) rfl (q := 10) rfl ?_
      refine own_iload X717 hx (hb hby own_d10_10) rfl (q := 12) rfl ?_
      refine own_icY X717 hx (hb hby own_d10_12) (flt (by decide : ¬ ((0 : Int32) < (0 : Int32)))).2.1 (q := 51) (by decide) (by decide) ?_
      refine own_iloadN X717 hx (hb hby own_d10_51) rfl (q := 52) rfl ?_
      refine own_retI X717 hx Bd.returns Bd.notSynchronized (by decide) (by decide) (hb hby own_d10_52) ?_
      show own_Q10_2 Z o0 q1 w_o0_values k_w_o0_values w_w_o0_values_0 w_w_o0_values_1 h0 n0 _ T717.heap _
      exact ⟨(by simp only [own_F10_2, if_neg hc33_715, if_neg hc33_719]), N0, e717⟩
def own_Q9_3 (Z : State) (o0 : Addr) (o2 : Addr) (w_o0_trail : Value) (w_o0_words : Value) (w_o0_initialSize : Int32) (w_o0_size : Int32) (h0 : Heap) (n0 : Nat) (v : Option Value) (h : Heap) (L : List Loc) : Prop := v = none ∧ Fr n0 L ∧ Keep h0 h [o0] ∧ Exa Z h o0 "com/example/arcwise/arcwise/network/Domain"
theorem own_pn_rm9_3 : plainName "com/example/arcwise/arcwise/network/Domain" = true := by first | (simp [plainName, overriddenIn]; done) | decide +kernel
theorem own_ef_rm9_3 (m : MethodId) (o0 : Addr) (o2 : Addr) : entryFrame m #[(.ref o0), (.int (3 : Int32)), (.ref o2)] 4 = mkF m 0 #[.val (.ref o0), .val (.int (3 : Int32)), .val (.ref o2), .unset] [] := by first | (simp [entryFrame, mkF, argsToLocals, Value.category]; done) | rfl
set_option maxRecDepth 65536 in
set_option maxHeartbeats 40000000 in
theorem own_rm9_3 (l : Launch) (Z : State) (a0 : Array Value) (hw : ∀ d ∈ tables_1, d.before a0 Z = true) (ws : List Jvm.Cond) (o0 : Addr) (o2 : Addr) (w_o0_trail : Value) (w_o0_words : Value) (w_o0_initialSize : Int32) (w_o0_size : Int32) (h0 : Heap) (n0 : Nat) (Z0 : n0 ≤ h0.size) (E_o0 : Exa Z h0 o0 "com/example/arcwise/arcwise/network/Domain") (F_o0_trail : Fld Z h0 o0 "com/example/arcwise/arcwise/network/Domain" "trail" "Lcom/example/arcwise/arcwise/network/Trail;" w_o0_trail) (F_o0_words : Fld Z h0 o0 "com/example/arcwise/arcwise/network/Domain" "words" "[J" w_o0_words) (F_o0_initialSize : Fld Z h0 o0 "com/example/arcwise/arcwise/network/Domain" "initialSize" "I" (.int w_o0_initialSize)) (F_o0_size : Fld Z h0 o0 "com/example/arcwise/arcwise/network/Domain" "size" "I" (.int w_o0_size)) (g_o0 : n0 ≤ o0) :
    MetFree l (⟨"com/example/arcwise/arcwise/network/Domain", "<init>", "(ILcom/example/arcwise/arcwise/network/Trail;)V"⟩ : MethodName) (head1 (Jvm.Cond.code (⟨"com/example/arcwise/arcwise/network/Domain", "<init>", "(ILcom/example/arcwise/arcwise/network/Trail;)V"⟩ : MethodName) prog_59_method_1_code 4 none :: ws) ({ frames := 1, cells := 1, slots := 1, locals := 12 } : Room)) (fun a U => a = #[(.ref o0), (.int (3 : Int32)), (.ref o2)] ∧ Z.Warmed39 U.vm ∧ U.heap = h0) (fun _ _ _ _ _ => True) (fun _ U o U' => ∃ v L, o = .returned v ∧ own_Q9_3 Z o0 o2 w_o0_trail w_o0_words w_o0_initialSize w_o0_size h0 n0 v U'.heap L ∧ FrameEnd U o U' L ({ frames := 1, cells := 1, slots := 1, locals := 12 } : Room).cells ({ frames := 1, cells := 1, slots := 1, locals := 12 } : Room).slots) := by
  refine MetFree.of_bodySF (plainFor_of_name own_pn_rm9_3) hisR ?_
  intro p e s m args below meth c s₁ Bd hml0 hP hK
  obtain ⟨rfl, hZ, hh⟩ := hP
  have hx := Bd.exec
  have hby := Bd.bytes
  have hml : c.maxLocals = 4 := hml0
  have hown : s.vm.findClass "com/example/arcwise/arcwise/network/Domain" = some m.cls := findClass_of_methodNamed Bd.named
  have hnm := (name_of_methodNamed Bd.named Bd.method).1
  have X0 : Stand p l e ({ frames := 1, cells := 1, slots := 1, locals := 12 } : Room) s m #[(.ref o0), (.int (3 : Int32)), (.ref o2)] below meth c s₁ [] 0 0 := Stand.of_body Bd
  have e0 : s₁.heap = h0 := by rw [← hh, Bd.state]; rfl
  have N0 := Fr.nil n0
  show own_End p e below s (own_Q9_3 Z o0 o2 w_o0_trail w_o0_words w_o0_initialSize w_o0_size h0 n0) ({ frames := 1, cells := 1, slots := 1, locals := 12 } : Room).cells ({ frames := 1, cells := 1, slots := 1, locals := 12 } : Room).slots (s₁.setTop (entryFrame m #[(.ref o0), (.int (3 : Int32)), (.ref o2)] 4))
  rw [own_ef_rm9_3]
  refine own_aloadN X0 hx (hb hby own_d9_0) rfl rfl (q := 1) rfl ?_
  obtain ⟨T722, X722, e722, st722⟩ := initO X0 hx hZ hown (hw _ (List.mem_of_getElem? (i := 87) rfl)) (hw _ (List.mem_of_getElem? (i := 26) rfl)) (hw _ (List.mem_of_getElem? (i := 27) rfl)) e0 (g := (mkF m 1 #[.val (.ref o0), .val (.int (3 : Int32)), .val (.ref o2), .unset] [(.ref o0)])) rfl (by rw [hml]; rfl) rfl (hb hby own_d9_1) (by decide) (W := 0) (by show 2 * 0 + _ ≤ _; exact Nat.le_of_eq rfl) (by decide)
  refine own_back st722 ?_
  show own_End p e below s _ _ _ (T722.setTop (mkF m 4 #[.val (.ref o0), .val (.int (3 : Int32)), .val (.ref o2), .unset] []))
  refine own_aloadN X722 hx (hb hby own_d9_4) rfl rfl (q := 5) rfl ?_
  refine own_aloadN X722 hx (hb hby own_d9_5) rfl rfl (q := 6) rfl ?_
  obtain ⟨T723, h723, X723, e723, W723, st723⟩ := putF X722 hx hZ hown (host := "") (Or.inl (hw _ (List.mem_of_getElem? (i := 88) rfl))) Via.refl e722 F_o0_trail E_o0 (Or.inr ⟨(hw _ (List.mem_of_getElem? (i := 89) rfl)), rfl, hnm⟩) (hw _ (List.mem_of_getElem? (i := 82) rfl)) (ty := (.object "com/example/arcwise/arcwise/network/Trail")) (by decide) rfl rfl (g := (mkF m 6 #[.val (.ref o0), .val (.int (3 : Int32)), .val (.ref o2), .unset] [(.ref o2), (.ref o0)])) rfl rfl (hb hby own_d9_6)
  have F_o0_trail_723 := F_o0_trail.same W723
  have E_o0_724 := E_o0.wr W723
  have F_o0_words_725 := F_o0_words.other W723 (Or.inr (slot_ne (Or.inr (hw _ (List.mem_of_getElem? (i := 92) rfl))) (Or.inr (hw _ (List.mem_of_getElem? (i := 89) rfl))) (by decide) (t := (.array .long)) (t' := (.object "com/example/arcwise/arcwise/network/Trail")) (by decide) (by decide)))
  have F_o0_initialSize_726 := F_o0_initialSize.other W723 (Or.inr (slot_ne (Or.inr (hw _ (List.mem_of_getElem? (i := 94) rfl))) (Or.inr (hw _ (List.mem_of_getElem? (i := 89) rfl))) (by decide) (t := .int) (t' := (.object "com/example/arcwise/arcwise/network/Trail")) (by decide) (by decide)))
  have F_o0_size_727 := F_o0_size.other W723 (Or.inr (slot_ne (Or.inl (hw _ (List.mem_of_getElem? (i := 96) rfl))) (Or.inr (hw _ (List.mem_of_getElem? (i := 89) rfl))) (by decide) (t := .int) (t' := (.object "com/example/arcwise/arcwise/network/Trail")) (by decide) (by decide)))
  have Kp728 : Keep h0 _ [o0] := (Keep.refl h0 [o0]).wr W723 (Or.inl (List.mem_of_getElem? (i := 0) rfl))
  have Z729 := Nat.le_trans Z0 (Keep.of_wr W723).1
  obtain ⟨L723, X723, N723⟩ := own_gl X723 (Fr.snoc X723 N0 g_o0)
  refine own_back st723 ?_
  show own_End p e below s _ _ _ (T723.setTop (mkF m 9 #[.val (.ref o0), .val (.int (3 : Int32)), .val (.ref o2), .unset] []))
  refine own_aloadN X723 hx (hb hby own_d9_9) rfl rfl (q := 10) rfl ?_
  refine own_iloadN X723 hx (hb hby own_d9_10) rfl (q := 11) rfl ?_
  refine own_bipush X723 hx (hb hby own_d9_11) (z := 63) rfl (q := 13) rfl ?_
  refine own_iadd X723 hx (hb hby own_d9_13) (q := 14) rfl ?_
  show own_End p e below s _ _ _ (T723.setTop (mkF m 14 #[.val (.ref o0), .val (.int (3 : Int32)), .val (.ref o2), .unset] [(.int (66 : Int32)), (.ref o0)]))
  refine own_bipush X723 hx (hb hby own_d9_14) (z := 6) rfl (q := 16) rfl ?_
  refine own_iushr X723 hx (hb hby own_d9_16) (q := 17) rfl ?_
  show own_End p e below s _ _ _ (T723.setTop (mkF m 17 #[.val (.ref o0), .val (.int (3 : Int32)), .val (.ref o2), .unset] [(.int (1 : Int32)), (.ref o0)]))
  obtain ⟨T730, h730, k730, X730, e730, E730, A730, st730⟩ := newP X723 hx hZ (hw _ (List.mem_of_getElem? (i := 90) rfl)) e723 (g := (mkF m 17 #[.val (.ref o0), .val (.int (3 : Int32)), .val (.ref o2), .unset] [(.int (1 : Int32)), (.ref o0)])) rfl (hb hby own_d9_17) rfl (by decide) (cap := 1) (by decide) (by decide) (by decide) (by decide)
  obtain ⟨b730, g730⟩ : ∃ z, z = h723.size := ⟨_, rfl⟩
  have ne_o0_b730 : o0 ≠ b730 := Nat.ne_of_lt (Nat.lt_of_lt_of_le E_o0_724.lt (Nat.le_of_eq g730.symm))
  have g_b730 : n0 ≤ b730 := Nat.le_trans Z729 (Nat.le_of_eq g730.symm)
  have sz_b730 : h0.size ≤ b730 := Nat.le_trans Kp728.1 (Nat.le_of_eq g730.symm)
  have Z731 := Nat.le_trans Z729 E730.1
  rw [← g730] at A730 st730
  have E_o0_732 := E_o0_724.ext E730
  have F_o0_trail_733 := F_o0_trail_723.ext E730
  have F_o0_words_734 := F_o0_words_725.ext E730
  have F_o0_initialSize_735 := F_o0_initialSize_726.ext E730
  have F_o0_size_736 := F_o0_size_727.ext E730
  have Kp737 : Keep h0 _ [o0] := Kp728.ext E730
  have V_b730 : Arv Z h730 b730 k730 .long (1 : Int32) [(.long (0 : Int64))] (.long (0 : Int64)) := (Arv.new A730 (by decide)).pad (pad_rep [] (.long (0 : Int64)) 1)
  refine own_back st730 ?_
  show own_End p e below s _ _ _ (T730.setTop (mkF m 19 #[.val (.ref o0), .val (.int (3 : Int32)), .val (.ref o2), .unset] [(.ref b730), (.ref o0)]))
  obtain ⟨T738, h738, X738, e738, W738, st738⟩ := putF X730 hx hZ hown (host := "") (Or.inl (hw _ (List.mem_of_getElem? (i := 91) rfl))) Via.refl e730 F_o0_words_734 E_o0_732 (Or.inr ⟨(hw _ (List.mem_of_getElem? (i := 92) rfl)), rfl, hnm⟩) (hw _ (List.mem_of_getElem? (i := 82) rfl)) (ty := (.array .long)) (by decide) rfl rfl (g := (mkF m 19 #[.val (.ref o0), .val (.int (3 : Int32)), .val (.ref o2), .unset] [(.ref b730), (.ref o0)])) rfl rfl (hb hby own_d9_19)
  have F_o0_words_738 := F_o0_words_734.same W738
  have E_o0_739 := E_o0_732.wr W738
  have F_o0_trail_740 := F_o0_trail_733.other W738 (Or.inr (slot_ne (Or.inr (hw _ (List.mem_of_getElem? (i := 89) rfl))) (Or.inr (hw _ (List.mem_of_getElem? (i := 92) rfl))) (by decide) (t := (.object "com/example/arcwise/arcwise/network/Trail")) (t' := (.array .long)) (by decide) (by decide)))
  have F_o0_initialSize_741 := F_o0_initialSize_735.other W738 (Or.inr (slot_ne (Or.inr (hw _ (List.mem_of_getElem? (i := 94) rfl))) (Or.inr (hw _ (List.mem_of_getElem? (i := 92) rfl))) (by decide) (t := .int) (t' := (.array .long)) (by decide) (by decide)))
  have F_o0_size_742 := F_o0_size_736.other W738 (Or.inr (slot_ne (Or.inl (hw _ (List.mem_of_getElem? (i := 96) rfl))) (Or.inr (hw _ (List.mem_of_getElem? (i := 92) rfl))) (by decide) (t := .int) (t' := (.array .long)) (by decide) (by decide)))
  have V_b730_743 := V_b730.other W738 (Ne.symm ne_o0_b730)
  have Kp744 : Keep h0 _ [o0] := Kp737.wr W738 (Or.inl (List.mem_of_getElem? (i := 0) rfl))
  have Z745 := Nat.le_trans Z731 (Keep.of_wr W738).1
  obtain ⟨L738, X738, N738⟩ := own_gl X738 (Fr.snoc X738 N723 g_o0)
  refine own_back st738 ?_
  show own_End p e below s _ _ _ (T738.setTop (mkF m 22 #[.val (.ref o0), .val (.int (3 : Int32)), .val (.ref o2), .unset] []))
  refine own_aloadN X738 hx (hb hby own_d9_22) rfl rfl (q := 23) rfl ?_
  refine own_iloadN X738 hx (hb hby own_d9_23) rfl (q := 24) rfl ?_
  obtain ⟨T746, h746, X746, e746, W746, st746⟩ := putF X738 hx hZ hown (host := "") (Or.inl (hw _ (List.mem_of_getElem? (i := 93) rfl))) Via.refl e738 F_o0_initialSize_741 E_o0_739 (Or.inr ⟨(hw _ (List.mem_of_getElem? (i := 94) rfl)), rfl, hnm⟩) (hw _ (List.mem_of_getElem? (i := 82) rfl)) (ty := .int) (by decide) rfl rfl (g := (mkF m 24 #[.val (.ref o0), .val (.int (3 : Int32)), .val (.ref o2), .unset] [(.int (3 : Int32)), (.ref o0)])) rfl rfl (hb hby own_d9_24)
  have F_o0_initialSize_746 := F_o0_initialSize_741.same W746
  have E_o0_747 := E_o0_739.wr W746
  have F_o0_trail_748 := F_o0_trail_740.other W746 (Or.inr (slot_ne (Or.inr (hw _ (List.mem_of_getElem? (i := 89) rfl))) (Or.inr (hw _ (List.mem_of_getElem? (i := 94) rfl))) (by decide) (t := (.object "com/example/arcwise/arcwise/network/Trail")) (t' := .int) (by decide) (by decide)))
  have F_o0_words_749 := F_o0_words_738.other W746 (Or.inr (slot_ne (Or.inr (hw _ (List.mem_of_getElem? (i := 92) rfl))) (Or.inr (hw _ (List.mem_of_getElem? (i := 94) rfl))) (by decide) (t := (.array .long)) (t' := .int) (by decide) (by decide)))
  have F_o0_size_750 := F_o0_size_742.other W746 (Or.inr (slot_ne (Or.inl (hw _ (List.mem_of_getElem? (i := 96) rfl))) (Or.inr (hw _ (List.mem_of_getElem? (i := 94) rfl))) (by decide) (t := .int) (t' := .int) (by decide) (by decide)))
  have V_b730_751 := V_b730_743.other W746 (Ne.symm ne_o0_b730)
  have Kp752 : Keep h0 _ [o0] := Kp744.wr W746 (Or.inl (List.mem_of_getElem? (i := 0) rfl))
  have Z753 := Nat.le_trans Z745 (Keep.of_wr W746).1
  obtain ⟨L746, X746, N746⟩ := own_gl X746 (Fr.snoc X746 N738 g_o0)
  refine own_back st746 ?_
  show own_End p e below s _ _ _ (T746.setTop (mkF m 27 #[.val (.ref o0), .val (.int (3 : Int32)), .val (.ref o2), .unset] []))
  refine own_aloadN X746 hx (hb hby own_d9_27) rfl rfl (q := 28) rfl ?_
  refine own_iloadN X746 hx (hb hby own_d9_28) rfl (q := 29) rfl ?_
  obtain ⟨T754, h754, X754, e754, W754, st754⟩ := putF X746 hx hZ hown (host := "") (Or.inl (hw _ (List.mem_of_getElem? (i := 95) rfl))) Via.refl e746 F_o0_size_750 E_o0_747 (Or.inl (hw _ (List.mem_of_getElem? (i := 96) rfl))) (hw _ (List.mem_of_getElem? (i := 82) rfl)) (ty := .int) (by decide) rfl rfl (g := (mkF m 29 #[.val (.ref o0), .val (.int (3 : Int32)), .val (.ref o2), .unset] [(.int (3 : Int32)), (.ref o0)])) rfl rfl (hb hby own_d9_29)
  have F_o0_size_754 := F_o0_size_750.same W754
  have E_o0_755 := E_o0_747.wr W754
  have F_o0_trail_756 := F_o0_trail_748.other W754 (Or.inr (slot_ne (Or.inr (hw _ (List.mem_of_getElem? (i := 89) rfl))) (Or.inl (hw _ (List.mem_of_getElem? (i := 96) rfl))) (by decide) (t := (.object "com/example/arcwise/arcwise/network/Trail")) (t' := .int) (by decide) (by decide)))
  have F_o0_words_757 := F_o0_words_749.other W754 (Or.inr (slot_ne (Or.inr (hw _ (List.mem_of_getElem? (i := 92) rfl))) (Or.inl (hw _ (List.mem_of_getElem? (i := 96) rfl))) (by decide) (t := (.array .long)) (t' := .int) (by decide) (by decide)))
  have F_o0_initialSize_758 := F_o0_initialSize_746.other W754 (Or.inr (slot_ne (Or.inr (hw _ (List.mem_of_getElem? (i := 94) rfl))) (Or.inl (hw _ (List.mem_of_getElem? (i := 96) rfl))) (by decide) (t := .int) (t' := .int) (by decide) (by decide)))
  have V_b730_759 := V_b730_751.other W754 (Ne.symm ne_o0_b730)
  have Kp760 : Keep h0 _ [o0] := Kp752.wr W754 (Or.inl (List.mem_of_getElem? (i := 0) rfl))
  have Z761 := Nat.le_trans Z753 (Keep.of_wr W754).1
  obtain ⟨L754, X754, N754⟩ := own_gl X754 (Fr.snoc X754 N746 g_o0)
  refine own_back st754 ?_
  show own_End p e below s _ _ _ (T754.setTop (mkF m 32 #[.val (.ref o0), .val (.int (3 : Int32)), .val (.ref o2), .unset] []))
  refine own_iconst X754 hx (hb hby own_d9_32) (z := 0) rfl (q := 33) rfl ?_
  refine own_istoreN X754 hx (hb hby own_d9_33) (l' := #[.val (.ref o0), .val (.int (3 : Int32)), .val (.ref o2), .val (.int (0 : Int32))]) rfl (q := 34) rfl ?_
  refine own_iloadN X754 hx (hb hby own_d9_34) rfl (q := 35) rfl ?_
  refine own_iloadN X754 hx (hb hby own_d9_35) rfl (q := 36) rfl ?_
  refine own_icN X754 hx (hb hby own_d9_36) (tlt (by decide : ((0 : Int32) < (3 : Int32)))).2.1 (q := 39) rfl ?_
  refine own_aloadN X754 hx (hb hby own_d9_39) rfl rfl (q := 40) rfl ?_
  obtain ⟨T762, X762, e762, st762⟩ := getF X754 hx hZ hown (host := "") (Or.inl (hw _ (List.mem_of_getElem? (i := 91) rfl))) Via.refl e754 F_o0_words_757 (g := (mkF m 40 #[.val (.ref o0), .val (.int (3 : Int32)), .val (.ref o2), .val (.int (0 : Int32))] [(.ref o0)])) rfl rfl (hb hby own_d9_40)
  refine own_back st762 ?_
  show own_End p e below s _ _ _ (T762.setTop (mkF m 43 #[.val (.ref o0), .val (.int (3 : Int32)), .val (.ref o2), .val (.int (0 : Int32))] [(.ref b730)]))
  refine own_iloadN X762 hx (hb hby own_d9_43) rfl (q := 44) rfl ?_
  refine own_bipush X762 hx (hb hby own_d9_44) (z := 6) rfl (q := 46) rfl ?_
  refine own_iushr X762 hx (hb hby own_d9_46) (q := 47) rfl ?_
  show own_End p e below s _ _ _ (T762.setTop (mkF m 47 #[.val (.ref o0), .val (.int (3 : Int32)), .val (.ref o2), .val (.int (0 : Int32))] [(.int (0 : Int32)), (.ref b730)]))
  refine own_back (fun _ k => ?_) (b := T762.setTop (mkF m 48 #[.val (.ref o0), .val (.int (3 : Int32)), .val (.ref o2), .val (.int (0 : Int32))] [(.int (0 : Int32)), (.ref b730), (.int (0 : Int32)), (.ref b730)])) ?_
  · jvm_step X762.here [X762.here.top, hx, (hb hby own_d9_47), Value.category]
    exact k
  obtain ⟨cl763, Ar763, q763, S763, N763v, H763, G763⟩ := id V_b730_759
  have hin763 : ¬ ((0 : Int32) < 0 ∨ cl763.slots.size ≤ ((0 : Int32)).toNatClampNeg) := inb_of S763 ⟨by decide, by decide⟩
  refine own_back (X762.laload hx (j := (0 : Int32)) (v := (.long (0 : Int64))) (by rw [e762]; exact Ar763.1) (State.isArrayOf_alike hZ.alike Ar763.2.1) Ar763.2.2 hin763 (Has.at H763 hin763 rfl) (g := (mkF m 48 #[.val (.ref o0), .val (.int (3 : Int32)), .val (.ref o2), .val (.int (0 : Int32))] [(.int (0 : Int32)), (.ref b730), (.int (0 : Int32)), (.ref b730)])) rfl rfl (hb hby own_d9_48)) ?_
  show own_End p e below s _ _ _ (T762.setTop (mkF m 49 #[.val (.ref o0), .val (.int (3 : Int32)), .val (.ref o2), .val (.int (0 : Int32))] [(.long (0 : Int64)), (.int (0 : Int32)), (.ref b730)]))
  refine own_lconst X762 hx (hb hby own_d9_49) (z := 1) rfl (q := 50) rfl ?_
  refine own_iloadN X762 hx (hb hby own_d9_50) rfl (q := 51) rfl ?_
  refine own_lshl X762 hx (hb hby own_d9_51) (q := 52) rfl ?_
  show own_End p e below s _ _ _ (T762.setTop (mkF m 52 #[.val (.ref o0), .val (.int (3 : Int32)), .val (.ref o2), .val (.int (0 : Int32))] [(.long (1 : Int64)), (.long (0 : Int64)), (.int (0 : Int32)), (.ref b730)]))
  refine own_lor X762 hx (hb hby own_d9_52) (q := 53) rfl ?_
  show own_End p e below s _ _ _ (T762.setTop (mkF m 53 #[.val (.ref o0), .val (.int (3 : Int32)), .val (.ref o2), .val (.int (0 : Int32))] [(.long (1 : Int64)), (.int (0 : Int32)), (.ref b730)]))
  obtain ⟨cl764, Ar764, q764, S764, N764v, H764, G764⟩ := id V_b730_759
  have hin764 : ¬ ((0 : Int32) < 0 ∨ cl764.slots.size ≤ ((0 : Int32)).toNatClampNeg) := inb_of S764 ⟨by decide, by decide⟩
  obtain ⟨T764, h764, X764, e764, W764, st764⟩ := stJ X762 hx hZ e762 Ar764 (j := (0 : Int32)) hin764 (g := (mkF m 53 #[.val (.ref o0), .val (.int (3 : Int32)), .val (.ref o2), .val (.int (0 : Int32))] [(.long (1 : Int64)), (.int (0 : Int32)), (.ref b730)])) rfl rfl (hb hby own_d9_53)
  have V_b730_764 : Arv Z h764 b730 k730 .long (1 : Int32) [(.long (1 : Int64))] (.long (0 : Int64)) := Arv.set Ar764 q764 S764 N764v H764 G764 rfl W764 0 rfl (Nat.le_of_ble_eq_true rfl)
  have E_o0_765 := E_o0_755.wr W764
  have F_o0_trail_766 := F_o0_trail_756.other W764 (Or.inl ne_o0_b730)
  have F_o0_words_767 := F_o0_words_757.other W764 (Or.inl ne_o0_b730)
  have F_o0_initialSize_768 := F_o0_initialSize_758.other W764 (Or.inl ne_o0_b730)
  have F_o0_size_769 := F_o0_size_754.other W764 (Or.inl ne_o0_b730)
  have Kp770 : Keep h0 _ [o0] := Kp760.wr W764 (Or.inr sz_b730)
  have Z771 := Nat.le_trans Z761 (Keep.of_wr W764).1
  obtain ⟨L764, X764, N764⟩ := own_gl X764 (Fr.snoc X764 N754 g_b730)
  refine own_back st764 ?_
  show own_End p e below s _ _ _ (T764.setTop (mkF m 54 #[.val (.ref o0), .val (.int (3 : Int32)), .val (.ref o2), .val (.int (0 : Int32))] []))
  refine own_iinc X764 hx (hb hby own_d9_54) rfl (z := 1) rfl (l' := #[.val (.ref o0), .val (.int (3 : Int32)), .val (.ref o2), .val (.int (1 : Int32))]) rfl (q := 57) rfl ?_
  refine own_goto X764 hx (hb hby own_d9_57) (q := 34) (by decide) (by decide) ?_
  refine own_iloadN X764 hx (hb hby own_d9_34) rfl (q := 35) rfl ?_
  refine own_iloadN X764 hx (hb hby own_d9_35) rfl (q := 36) rfl ?_
  refine own_icN X764 hx (hb hby own_d9_36) (tlt (by decide : ((1 : Int32) < (3 : Int32)))).2.1 (q := 39) rfl ?_
  refine own_aloadN X764 hx (hb hby own_d9_39) rfl rfl (q := 40) rfl ?_
  obtain ⟨T772, X772, e772, st772⟩ := getF X764 hx hZ hown (host := "") (Or.inl (hw _ (List.mem_of_getElem? (i := 91) rfl))) Via.refl e764 F_o0_words_767 (g := (mkF m 40 #[.val (.ref o0), .val (.int (3 : Int32)), .val (.ref o2), .val (.int (1 : Int32))] [(.ref o0)])) rfl rfl (hb hby own_d9_40)
  refine own_back st772 ?_
  show own_End p e below s _ _ _ (T772.setTop (mkF m 43 #[.val (.ref o0), .val (.int (3 : Int32)), .val (.ref o2), .val (.int (1 : Int32))] [(.ref b730)]))
  refine own_iloadN X772 hx (hb hby own_d9_43) rfl (q := 44) rfl ?_
  refine own_bipush X772 hx (hb hby own_d9_44) (z := 6) rfl (q := 46) rfl ?_
  refine own_iushr X772 hx (hb hby own_d9_46) (q := 47) rfl ?_
  show own_End p e below s _ _ _ (T772.setTop (mkF m 47 #[.val (.ref o0), .val (.int (3 : Int32)), .val (.ref o2), .val (.int (1 : Int32))] [(.int (0 : Int32)), (.ref b730)]))
  refine own_back (fun _ k => ?_) (b := T772.setTop (mkF m 48 #[.val (.ref o0), .val (.int (3 : Int32)), .val (.ref o2), .val (.int (1 : Int32))] [(.int (0 : Int32)), (.ref b730), (.int (0 : Int32)), (.ref b730)])) ?_
  · jvm_step X772.here [X772.here.top, hx, (hb hby own_d9_47), Value.category]
    exact k
  obtain ⟨cl773, Ar773, q773, S773, N773v, H773, G773⟩ := id V_b730_764
  have hin773 : ¬ ((0 : Int32) < 0 ∨ cl773.slots.size ≤ ((0 : Int32)).toNatClampNeg) := inb_of S773 ⟨by decide, by decide⟩
  refine own_back (X772.laload hx (j := (0 : Int32)) (v := (.long (1 : Int64))) (by rw [e772]; exact Ar773.1) (State.isArrayOf_alike hZ.alike Ar773.2.1) Ar773.2.2 hin773 (Has.at H773 hin773 rfl) (g := (mkF m 48 #[.val (.ref o0), .val (.int (3 : Int32)), .val (.ref o2), .val (.int (1 : Int32))] [(.int (0 : Int32)), (.ref b730), (.int (0 : Int32)), (.ref b730)])) rfl rfl (hb hby own_d9_48)) ?_
  show own_End p e below s _ _ _ (T772.setTop (mkF m 49 #[.val (.ref o0), .val (.int (3 : Int32)), .val (.ref o2), .val (.int (1 : Int32))] [(.long (1 : Int64)), (.int (0 : Int32)), (.ref b730)]))
  refine own_lconst X772 hx (hb hby own_d9_49) (z := 1) rfl (q := 50) rfl ?_
  refine own_iloadN X772 hx (hb hby own_d9_50) rfl (q := 51) rfl ?_
  refine own_lshl X772 hx (hb hby own_d9_51) (q := 52) rfl ?_
  show own_End p e below s _ _ _ (T772.setTop (mkF m 52 #[.val (.ref o0), .val (.int (3 : Int32)), .val (.ref o2), .val (.int (1 : Int32))] [(.long (2 : Int64)), (.long (1 : Int64)), (.int (0 : Int32)), (.ref b730)]))
  refine own_lor X772 hx (hb hby own_d9_52) (q := 53) rfl ?_
  show own_End p e below s _ _ _ (T772.setTop (mkF m 53 #[.val (.ref o0), .val (.int (3 : Int32)), .val (.ref o2), .val (.int (1 : Int32))] [(.long (3 : Int64)), (.int (0 : Int32)), (.ref b730)]))
  obtain ⟨cl774, Ar774, q774, S774, N774v, H774, G774⟩ := id V_b730_764
  have hin774 : ¬ ((0 : Int32) < 0 ∨ cl774.slots.size ≤ ((0 : Int32)).toNatClampNeg) := inb_of S774 ⟨by decide, by decide⟩
  obtain ⟨T774, h774, X774, e774, W774, st774⟩ := stJ X772 hx hZ e772 Ar774 (j := (0 : Int32)) hin774 (g := (mkF m 53 #[.val (.ref o0), .val (.int (3 : Int32)), .val (.ref o2), .val (.int (1 : Int32))] [(.long (3 : Int64)), (.int (0 : Int32)), (.ref b730)])) rfl rfl (hb hby own_d9_53)
  have V_b730_774 : Arv Z h774 b730 k730 .long (1 : Int32) [(.long (3 : Int64))] (.long (0 : Int64)) := Arv.set Ar774 q774 S774 N774v H774 G774 rfl W774 0 rfl (Nat.le_of_ble_eq_true rfl)
  have E_o0_775 := E_o0_765.wr W774
  have F_o0_trail_776 := F_o0_trail_766.other W774 (Or.inl ne_o0_b730)
  have F_o0_words_777 := F_o0_words_767.other W774 (Or.inl ne_o0_b730)
  have F_o0_initialSize_778 := F_o0_initialSize_768.other W774 (Or.inl ne_o0_b730)
  have F_o0_size_779 := F_o0_size_769.other W774 (Or.inl ne_o0_b730)
  have Kp780 : Keep h0 _ [o0] := Kp770.wr W774 (Or.inr sz_b730)
  have Z781 := Nat.le_trans Z771 (Keep.of_wr W774).1
  obtain ⟨L774, X774, N774⟩ := own_gl X774 (Fr.snoc X774 N764 g_b730)
  refine own_back st774 ?_
  show own_End p e below s _ _ _ (T774.setTop (mkF m 54 #[.val (.ref o0), .val (.int (3 : Int32)), .val (.ref o2), .val (.int (1 : Int32))] []))
  refine own_iinc X774 hx (hb hby own_d9_54) rfl (z := 1) rfl (l' := #[.val (.ref o0), .val (.int (3 : Int32)), .val (.ref o2), .val (.int (2 : Int32))]) rfl (q := 57) rfl ?_
  refine own_goto X774 hx (hb hby own_d9_57) (q := 34) (by decide) (by decide) ?_
  refine own_iloadN X774 hx (hb hby own_d9_34) rfl (q := 35) rfl ?_
  refine own_iloadN X774 hx (hb hby own_d9_35) rfl (q := 36) rfl ?_
  refine own_icN X774 hx (hb hby own_d9_36) (tlt (by decide : ((2 : Int32) < (3 : Int32)))).2.1 (q := 39) rfl ?_
  refine own_aloadN X774 hx (hb hby own_d9_39) rfl rfl (q := 40) rfl ?_
  obtain ⟨T782, X782, e782, st782⟩ := getF X774 hx hZ hown (host := "") (Or.inl (hw _ (List.mem_of_getElem? (i := 91) rfl))) Via.refl e774 F_o0_words_777 (g := (mkF m 40 #[.val (.ref o0), .val (.int (3 : Int32)), .val (.ref o2), .val (.int (2 : Int32))] [(.ref o0)])) rfl rfl (hb hby own_d9_40)
  refine own_back st782 ?_
  show own_End p e below s _ _ _ (T782.setTop (mkF m 43 #[.val (.ref o0), .val (.int (3 : Int32)), .val (.ref o2), .val (.int (2 : Int32))] [(.ref b730)]))
  refine own_iloadN X782 hx (hb hby own_d9_43) rfl (q := 44) rfl ?_
  refine own_bipush X782 hx (hb hby own_d9_44) (z := 6) rfl (q := 46) rfl ?_
  refine own_iushr X782 hx (hb hby own_d9_46) (q := 47) rfl ?_
  show own_End p e below s _ _ _ (T782.setTop (mkF m 47 #[.val (.ref o0), .val (.int (3 : Int32)), .val (.ref o2), .val (.int (2 : Int32))] [(.int (0 : Int32)), (.ref b730)]))
  refine own_back (fun _ k => ?_) (b := T782.setTop (mkF m 48 #[.val (.ref o0), .val (.int (3 : Int32)), .val (.ref o2), .val (.int (2 : Int32))] [(.int (0 : Int32)), (.ref b730), (.int (0 : Int32)), (.ref b730)])) ?_
  · jvm_step X782.here [X782.here.top, hx, (hb hby own_d9_47), Value.category]
    exact k
  obtain ⟨cl783, Ar783, q783, S783, N783v, H783, G783⟩ := id V_b730_774
  have hin783 : ¬ ((0 : Int32) < 0 ∨ cl783.slots.size ≤ ((0 : Int32)).toNatClampNeg) := inb_of S783 ⟨by decide, by decide⟩
  refine own_back (X782.laload hx (j := (0 : Int32)) (v := (.long (3 : Int64))) (by rw [e782]; exact Ar783.1) (State.isArrayOf_alike hZ.alike Ar783.2.1) Ar783.2.2 hin783 (Has.at H783 hin783 rfl) (g := (mkF m 48 #[.val (.ref o0), .val (.int (3 : Int32)), .val (.ref o2), .val (.int (2 : Int32))] [(.int (0 : Int32)), (.ref b730), (.int (0 : Int32)), (.ref b730)])) rfl rfl (hb hby own_d9_48)) ?_
  show own_End p e below s _ _ _ (T782.setTop (mkF m 49 #[.val (.ref o0), .val (.int (3 : Int32)), .val (.ref o2), .val (.int (2 : Int32))] [(.long (3 : Int64)), (.int (0 : Int32)), (.ref b730)]))
  refine own_lconst X782 hx (hb hby own_d9_49) (z := 1) rfl (q := 50) rfl ?_
  refine own_iloadN X782 hx (hb hby own_d9_50) rfl (q := 51) rfl ?_
  refine own_lshl X782 hx (hb hby own_d9_51) (q := 52) rfl ?_
  show own_End p e below s _ _ _ (T782.setTop (mkF m 52 #[.val (.ref o0), .val (.int (3 : Int32)), .val (.ref o2), .val (.int (2 : Int32))] [(.long (4 : Int64)), (.long (3 : Int64)), (.int (0 : Int32)), (.ref b730)]))
  refine own_lor X782 hx (hb hby own_d9_52) (q := 53) rfl ?_
  show own_End p e below s _ _ _ (T782.setTop (mkF m 53 #[.val (.ref o0), .val (.int (3 : Int32)), .val (.ref o2), .val (.int (2 : Int32))] [(.long (7 : Int64)), (.int (0 : Int32)), (.ref b730)]))
  obtain ⟨cl784, Ar784, q784, S784, N784v, H784, G784⟩ := id V_b730_774
  have hin784 : ¬ ((0 : Int32) < 0 ∨ cl784.slots.size ≤ ((0 : Int32)).toNatClampNeg) := inb_of S784 ⟨by decide, by decide⟩
  obtain ⟨T784, h784, X784, e784, W784, st784⟩ := stJ X782 hx hZ e782 Ar784 (j := (0 : Int32)) hin784 (g := (mkF m 53 #[.val (.ref o0), .val (.int (3 : Int32)), .val (.ref o2), .val (.int (2 : Int32))] [(.long (7 : Int64)), (.int (0 : Int32)), (.ref b730)])) rfl rfl (hb hby own_d9_53)
  have V_b730_784 : Arv Z h784 b730 k730 .long (1 : Int32) [(.long (7 : Int64))] (.long (0 : Int64)) := Arv.set Ar784 q784 S784 N784v H784 G784 rfl W784 0 rfl (Nat.le_of_ble_eq_true rfl)
  have E_o0_785 := E_o0_775.wr W784
  have F_o0_trail_786 := F_o0_trail_776.other W784 (Or.inl ne_o0_b730)
  have F_o0_words_787 := F_o0_words_777.other W784 (Or.inl ne_o0_b730)
  have F_o0_initialSize_788 := F_o0_initialSize_778.other W784 (Or.inl ne_o0_b730)
  have F_o0_size_789 := F_o0_size_779.other W784 (Or.inl ne_o0_b730)
  have Kp790 : Keep h0 _ [o0] := Kp780.wr W784 (Or.inr sz_b730)
  have Z791 := Nat.le_trans Z781 (Keep.of_wr W784).1
  obtain ⟨L784, X784, N784⟩ := own_gl X784 (Fr.snoc X784 N774 g_b730)
  refine own_back st784 ?_
  show own_End p e below s _ _ _ (T784.setTop (mkF m 54 #[.val (.ref o0), .val (.int (3 : Int32)), .val (.ref o2), .val (.int (2 : Int32))] []))
  refine own_iinc X784 hx (hb hby own_d9_54) rfl (z := 1) rfl (l' := #[.val (.ref o0), .val (.int (3 : Int32)), .val (.ref o2), .val (.int (3 : Int32))]) rfl (q := 57) rfl ?_
  refine own_goto X784 hx (hb hby own_d9_57) (q := 34) (by decide) (by decide) ?_
  refine own_iloadN X784 hx (hb hby own_d9_34) rfl (q := 35) rfl ?_
  refine own_iloadN X784 hx (hb hby own_d9_35) rfl (q := 36) rfl ?_
  refine own_icY X784 hx (hb hby own_d9_36) (flt (by decide : ¬ ((3 : Int32) < (3 : Int32)))).2.1 (q := 60) (by decide) (by decide) ?_
  refine own_retV X784 hx Bd.returns Bd.notSynchronized (by decide) (by decide) (hb hby own_d9_60) ?_
  show own_Q9_3 Z o0 o2 w_o0_trail w_o0_words w_o0_initialSize w_o0_size h0 n0 _ T784.heap _
  rw [e784]
  exact ⟨rfl, N784, Kp790, E_o0_785⟩
def own_Q8_3 (Z : State) (o0 : Addr) (p1 : Int32) (o2 : Addr) (o3 : Addr) (o4 : Addr) (o5 : Addr) (w_o0_constraints : Value) (w_o0_index : Int32) (w_o0_name : Value) (w_o0_values : Value) (w_o0_domain : Value) (w_o0_assignmentListeners : Value) (k_o3 : ClassId) (w_o3_0 : Int32) (w_o3_1 : Int32) (w_o3_2 : Int32) (sa : Addr) (h0 : Heap) (n0 : Nat) (v : Option Value) (h : Heap) (L : List Loc) : Prop := v = none ∧ Fr n0 L ∧ Keep h0 h [o0] ∧ ∃ (b861 : Addr) (k_o3 : ClassId), h0.size ≤ b861 ∧ Exa Z h o0 "com/example/arcwise/arcwise/network/Variable" ∧ Fld Z h o0 "com/example/arcwise/arcwise/network/Variable" "values" "[I" (.ref b861) ∧ Exa Z h b861 "[I" ∧ Arv Z h b861 k_o3 .int (3 : Int32) [(.int w_o3_0), (.int w_o3_1), (.int w_o3_2)] (.int (0 : Int32))
theorem own_pn_rm8_3 : plainName "com/example/arcwise/arcwise/network/Variable" = true := by first | (simp [plainName, overriddenIn]; done) | decide +kernel
theorem own_ef_rm8_3 (m : MethodId) (o0 : Addr) (p1 : Int32) (o2 : Addr) (o3 : Addr) (o4 : Addr) (o5 : Addr) : entryFrame m #[(.ref o0), (.int p1), (.ref o2), (.ref o3), (.ref o4), (.ref o5)] 6 = mkF m 0 #[.val (.ref o0), .val (.int p1), .val (.ref o2), .val (.ref o3), .val (.ref o4), .val (.ref o5)] [] := by first | (simp [entryFrame, mkF, argsToLocals, Value.category]; done) | rfl
set_option maxRecDepth 65536 in
set_option maxHeartbeats 40000000 in
theorem own_rm8_3 (l : Launch) (Z : State) (a0 : Array Value) (hw : ∀ d ∈ tables_1, d.before a0 Z = true) (ws : List Jvm.Cond) (o0 : Addr) (p1 : Int32) (o2 : Addr) (o3 : Addr) (o4 : Addr) (o5 : Addr) (w_o0_constraints : Value) (w_o0_index : Int32) (w_o0_name : Value) (w_o0_values : Value) (w_o0_domain : Value) (w_o0_assignmentListeners : Value) (k_o3 : ClassId) (w_o3_0 : Int32) (w_o3_1 : Int32) (w_o3_2 : Int32) (sa : Addr) (h0 : Heap) (n0 : Nat) (Z0 : n0 ≤ h0.size) (E_o0 : Exa Z h0 o0 "com/example/arcwise/arcwise/network/Variable") (F_o0_constraints : Fld Z h0 o0 "com/example/arcwise/arcwise/network/Variable" "constraints" "Ljava/util/List;" w_o0_constraints) (F_o0_index : Fld Z h0 o0 "com/example/arcwise/arcwise/network/Variable" "index" "I" (.int w_o0_index)) (F_o0_name : Fld Z h0 o0 "com/example/arcwise/arcwise/network/Variable" "name" "Ljava/lang/String;" w_o0_name) (F_o0_values : Fld Z h0 o0 "com/example/arcwise/arcwise/network/Variable" "values" "[I" w_o0_values) (F_o0_domain : Fld Z h0 o0 "com/example/arcwise/arcwise/network/Variable" "domain" "Lcom/example/arcwise/arcwise/network/Domain;" w_o0_domain) (F_o0_assignmentListeners : Fld Z h0 o0 "com/example/arcwise/arcwise/network/Variable" "assignmentListeners" "Ljava/util/List;" w_o0_assignmentListeners) (V_o3 : Arv Z h0 o3 k_o3 .int (3 : Int32) [(.int w_o3_0), (.int w_o3_1), (.int w_o3_2)] (.int (0 : Int32))) (E_o3 : Exa Z h0 o3 "[I") (ne_o0_o3 : o0 ≠ o3) (S_dc : Sta Z h0 "java/util/ArrayList" "DEFAULTCAPACITY_EMPTY_ELEMENTDATA" "[Ljava/lang/Object;" (.ref sa)) (g_o0 : n0 ≤ o0) :
    MetFree l (⟨"com/example/arcwise/arcwise/network/Variable", "<init>", "(ILjava/lang/String;[ILcom/example/arcwise/arcwise/network/Trail;Ljava/util/List;)V"⟩ : MethodName) (head1 (Jvm.Cond.code (⟨"com/example/arcwise/arcwise/network/Variable", "<init>", "(ILjava/lang/String;[ILcom/example/arcwise/arcwise/network/Trail;Ljava/util/List;)V"⟩ : MethodName) prog_62_method_1_code 6 none :: ws) ({ frames := 4, cells := 4, slots := 12, locals := 50 } : Room)) (fun a U => a = #[(.ref o0), (.int p1), (.ref o2), (.ref o3), (.ref o4), (.ref o5)] ∧ Z.Warmed39 U.vm ∧ U.heap = h0) (fun _ _ _ _ _ => True) (fun _ U o U' => ∃ v L, o = .returned v ∧ own_Q8_3 Z o0 p1 o2 o3 o4 o5 w_o0_constraints w_o0_index w_o0_name w_o0_values w_o0_domain w_o0_assignmentListeners k_o3 w_o3_0 w_o3_1 w_o3_2 sa h0 n0 v U'.heap L ∧ FrameEnd U o U' L ({ frames := 4, cells := 4, slots := 12, locals := 50 } : Room).cells ({ frames := 4, cells := 4, slots := 12, locals := 50 } : Room).slots) := by
  refine MetFree.of_bodySF (plainFor_of_name own_pn_rm8_3) hisR ?_
  intro p e s m args below meth c s₁ Bd hml0 hP hK
  obtain ⟨rfl, hZ, hh⟩ := hP
  have hx := Bd.exec
  have hby := Bd.bytes
  have hml : c.maxLocals = 6 := hml0
  have hown : s.vm.findClass "com/example/arcwise/arcwise/network/Variable" = some m.cls := findClass_of_methodNamed Bd.named
  have hnm := (name_of_methodNamed Bd.named Bd.method).1
  have X0 : Stand p l e ({ frames := 4, cells := 4, slots := 12, locals := 50 } : Room) s m #[(.ref o0), (.int p1), (.ref o2), (.ref o3), (.ref o4), (.ref o5)] below meth c s₁ [] 0 0 := Stand.of_body Bd
  have e0 : s₁.heap = h0 := by rw [← hh, Bd.state]; rfl
  have N0 := Fr.nil n0
  show own_End p e below s (own_Q8_3 Z o0 p1 o2 o3 o4 o5 w_o0_constraints w_o0_index w_o0_name w_o0_values w_o0_domain w_o0_assignmentListeners k_o3 w_o3_0 w_o3_1 w_o3_2 sa h0 n0) ({ frames := 4, cells := 4, slots := 12, locals := 50 } : Room).cells ({ frames := 4, cells := 4, slots := 12, locals := 50 } : Room).slots (s₁.setTop (entryFrame m #[(.ref o0), (.int p1), (.ref o2), (.ref o3), (.ref o4), (.ref o5)] 6))
  rw [own_ef_rm8_3]
  refine own_aloadN X0 hx (hb hby own_d8_0) rfl rfl (q := 1) rfl ?_
  obtain ⟨T793, X793, e793, st793⟩ := initO X0 hx hZ hown (hw _ (List.mem_of_getElem? (i := 61) rfl)) (hw _ (List.mem_of_getElem? (i := 26) rfl)) (hw _ (List.mem_of_getElem? (i := 27) rfl)) e0 (g := (mkF m 1 #[.val (.ref o0), .val (.int p1), .val (.ref o2), .val (.ref o3), .val (.ref o4), .val (.ref o5)] [(.ref o0)])) rfl (by rw [hml]; rfl) rfl (hb hby own_d8_1) (by decide) (W := 0) (by show 2 * 0 + _ ≤ _; exact Nat.le_of_eq rfl) (by decide)
  refine own_back st793 ?_
  show own_End p e below s _ _ _ (T793.setTop (mkF m 4 #[.val (.ref o0), .val (.int p1), .val (.ref o2), .val (.ref o3), .val (.ref o4), .val (.ref o5)] []))
  refine own_aloadN X793 hx (hb hby own_d8_4) rfl rfl (q := 5) rfl ?_
  obtain ⟨T794, h794, X794, e794, E794, A794, D794, -, st794⟩ := newO X793 hx hZ hown (hw _ (List.mem_of_getElem? (i := 62) rfl)) (hw _ (List.mem_of_getElem? (i := 35) rfl)) (hw _ (List.mem_of_getElem? (i := 36) rfl)) e793 (g := (mkF m 5 #[.val (.ref o0), .val (.int p1), .val (.ref o2), .val (.ref o3), .val (.ref o4), .val (.ref o5)] [(.ref o0)])) rfl (hb hby own_d8_5) (by decide) (by decide)
  obtain ⟨b794, g794⟩ : ∃ z, z = h0.size := ⟨_, rfl⟩
  have ne_o0_b794 : o0 ≠ b794 := Nat.ne_of_lt (Nat.lt_of_lt_of_le E_o0.lt (Nat.le_of_eq g794.symm))
  have ne_o3_b794 : o3 ≠ b794 := Nat.ne_of_lt (Nat.lt_of_lt_of_le V_o3.lt (Nat.le_of_eq g794.symm))
  have g_b794 : n0 ≤ b794 := Nat.le_trans Z0 (Nat.le_of_eq g794.symm)
  have sz_b794 : h0.size ≤ b794 := Nat.le_trans (Keep.refl h0 [o0]).1 (Nat.le_of_eq g794.symm)
  have Z795 := Nat.le_trans Z0 E794.1
  rw [← g794] at A794 D794 st794
  have S_dc_796 := S_dc.ext E794
  have E_o0_797 := E_o0.ext E794
  have F_o0_constraints_798 := F_o0_constraints.ext E794
  have F_o0_index_799 := F_o0_index.ext E794
  have F_o0_name_800 := F_o0_name.ext E794
  have F_o0_values_801 := F_o0_values.ext E794
  have F_o0_domain_802 := F_o0_domain.ext E794
  have F_o0_assignmentListeners_803 := F_o0_assignmentListeners.ext E794
  have V_o3_804 := V_o3.ext E794
  have E_o3_805 := E_o3.ext E794
  have Kp806 : Keep h0 _ [o0] := (Keep.refl h0 [o0]).ext E794
  have F_b794_modCount : Fld Z h794 b794 "java/util/AbstractList" "modCount" "I" (.int (0 : Int32)) := D794 (Or.inl (hw _ (List.mem_of_getElem? (i := 54) rfl))) (ty := .int) (by decide)
  have F_b794_elementData : Fld Z h794 b794 "java/util/ArrayList" "elementData" "[Ljava/lang/Object;" .null := D794 (Or.inl (hw _ (List.mem_of_getElem? (i := 57) rfl))) (ty := (.array (.object "java/lang/Object"))) (by decide)
  refine own_back st794 ?_
  show own_End p e below s _ _ _ (T794.setTop (mkF m 8 #[.val (.ref o0), .val (.int p1), .val (.ref o2), .val (.ref o3), .val (.ref o4), .val (.ref o5)] [(.ref b794), (.ref o0)]))
  refine own_dup X794 hx (hb hby own_d8_8) rfl (q := 9) rfl ?_
  obtain ⟨T807, Lc807, L807, X807, N807, hQ807, st807⟩ := own_shutV (val := none) (Q := own_Q5 Z b794 (0 : Int32) .null sa h794 n0) (rc := 0) (rs := 0) N0 (fun _ _ _ q => ⟨q.1, q.2.1⟩) (X794.specialBack hx (y := (⟨"java/util/ArrayList", "<init>", "()V"⟩ : MethodName)) rfl hown (mvT hZ (hw _ (List.mem_of_getElem? (i := 63) rfl))) (mvT hZ (hw _ (List.mem_of_getElem? (i := 38) rfl))) (mvT hZ (hw _ (List.mem_of_getElem? (i := 39) rfl))) (by decide) (backOf (W := 2) (own_rm5 l Z a0 hw [] b794 (0 : Int32) .null sa h794 n0 Z795 A794 F_b794_modCount F_b794_elementData S_dc_796 g_b794) hZ (hw _ (List.mem_of_getElem? (i := 39) rfl)) (hw _ (List.mem_of_getElem? (i := 36) rfl)) (by decide) (by decide)) (g := (mkF m 9 #[.val (.ref o0), .val (.int p1), .val (.ref o2), .val (.ref o3), .val (.ref o4), .val (.ref o5)] [(.ref b794), (.ref b794), (.ref o0)])) rfl (by rw [hml]; rfl) (Steps.refl _) (a := b794) (argsL := []) (rest := [(.ref b794), (.ref o0)]) (lenOf own_pd0 rfl) rfl (by show 2 * 0 + _ ≤ _; exact Nat.le_of_eq rfl) (hb hby own_d8_9) (fun _ _ => ⟨rfl, e794, (by decide : 1 + 0 ≤ _), (by decide : 3 + 0 ≤ _)⟩))
  obtain ⟨-, -, K807, Q807_0⟩ := hQ807
  have S_dc_808 := own_StaK S_dc_796 K807 (allS (P := fun o => ∃ C, Exa Z _ o C) ⟨_, A794⟩ all0)
  have E_o0_809 := E_o0_797.keep K807
  have F_o0_constraints_810 := F_o0_constraints_798.keep K807 (ninS ne_o0_b794 nin0)
  have F_o0_index_811 := F_o0_index_799.keep K807 (ninS ne_o0_b794 nin0)
  have F_o0_name_812 := F_o0_name_800.keep K807 (ninS ne_o0_b794 nin0)
  have F_o0_values_813 := F_o0_values_801.keep K807 (ninS ne_o0_b794 nin0)
  have F_o0_domain_814 := F_o0_domain_802.keep K807 (ninS ne_o0_b794 nin0)
  have F_o0_assignmentListeners_815 := F_o0_assignmentListeners_803.keep K807 (ninS ne_o0_b794 nin0)
  have V_o3_816 := V_o3_804.keep K807 (ninS ne_o3_b794 nin0)
  have E_o3_817 := E_o3_805.keep K807
  have A794_818 := A794.keep K807
  have Kp819 : Keep h0 _ [o0] := Kp806.trans K807 (allS (Or.inr sz_b794) all0)
  have Z820 := Nat.le_trans Z795 K807.1
  refine own_via st807 ?_
  show own_End p e below s _ _ _ (T807.setTop (mkF m 12 #[.val (.ref o0), .val (.int p1), .val (.ref o2), .val (.ref o3), .val (.ref o4), .val (.ref o5)] [(.ref b794), (.ref o0)]))
  obtain ⟨T821, h821, X821, e821, W821, st821⟩ := putF X807 hx hZ hown (host := "") (Or.inl (hw _ (List.mem_of_getElem? (i := 64) rfl))) Via.refl rfl F_o0_constraints_810 E_o0_809 (Or.inr ⟨(hw _ (List.mem_of_getElem? (i := 65) rfl)), rfl, hnm⟩) (hw _ (List.mem_of_getElem? (i := 9) rfl)) (ty := (.object "java/util/List")) (by decide) rfl rfl (g := (mkF m 12 #[.val (.ref o0), .val (.int p1), .val (.ref o2), .val (.ref o3), .val (.ref o4), .val (.ref o5)] [(.ref b794), (.ref o0)])) rfl rfl (hb hby own_d8_12)
  have F_o0_constraints_821 := F_o0_constraints_810.same W821
  have S_dc_822 := S_dc_808.wr W821
  have E_o0_823 := E_o0_809.wr W821
  have F_o0_index_824 := F_o0_index_811.other W821 (Or.inr (slot_ne (Or.inr (hw _ (List.mem_of_getElem? (i := 67) rfl))) (Or.inr (hw _ (List.mem_of_getElem? (i := 65) rfl))) (by decide) (t := .int) (t' := (.object "java/util/List")) (by decide) (by decide)))
  have F_o0_name_825 := F_o0_name_812.other W821 (Or.inr (slot_ne (Or.inr (hw _ (List.mem_of_getElem? (i := 69) rfl))) (Or.inr (hw _ (List.mem_of_getElem? (i := 65) rfl))) (by decide) (t := (.object "java/lang/String")) (t' := (.object "java/util/List")) (by decide) (by decide)))
  have F_o0_values_826 := F_o0_values_813.other W821 (Or.inr (slot_ne (Or.inr (hw _ (List.mem_of_getElem? (i := 80) rfl))) (Or.inr (hw _ (List.mem_of_getElem? (i := 65) rfl))) (by decide) (t := (.array .int)) (t' := (.object "java/util/List")) (by decide) (by decide)))
  have F_o0_domain_827 := F_o0_domain_814.other W821 (Or.inr (slot_ne (Or.inr (hw _ (List.mem_of_getElem? (i := 98) rfl))) (Or.inr (hw _ (List.mem_of_getElem? (i := 65) rfl))) (by decide) (t := (.object "com/example/arcwise/arcwise/network/Domain")) (t' := (.object "java/util/List")) (by decide) (by decide)))
  have F_o0_assignmentListeners_828 := F_o0_assignmentListeners_815.other W821 (Or.inr (slot_ne (Or.inr (hw _ (List.mem_of_getElem? (i := 100) rfl))) (Or.inr (hw _ (List.mem_of_getElem? (i := 65) rfl))) (by decide) (t := (.object "java/util/List")) (t' := (.object "java/util/List")) (by decide) (by decide)))
  have V_o3_829 := V_o3_816.other W821 (Ne.symm ne_o0_o3)
  have E_o3_830 := E_o3_817.wr W821
  have Q807_831 := Q807_0.wr W821
  have Kp832 : Keep h0 _ [o0] := Kp819.wr W821 (Or.inl (List.mem_of_getElem? (i := 0) rfl))
  have Z833 := Nat.le_trans Z820 (Keep.of_wr W821).1
  obtain ⟨L821, X821, N821⟩ := own_gl X821 (Fr.snoc X821 N807 g_o0)
  refine own_back st821 ?_
  show own_End p e below s _ _ _ (T821.setTop (mkF m 15 #[.val (.ref o0), .val (.int p1), .val (.ref o2), .val (.ref o3), .val (.ref o4), .val (.ref o5)] []))
  refine own_aloadN X821 hx (hb hby own_d8_15) rfl rfl (q := 16) rfl ?_
  refine own_iloadN X821 hx (hb hby own_d8_16) rfl (q := 17) rfl ?_
  obtain ⟨T834, h834, X834, e834, W834, st834⟩ := putF X821 hx hZ hown (host := "") (Or.inl (hw _ (List.mem_of_getElem? (i := 66) rfl))) Via.refl e821 F_o0_index_824 E_o0_823 (Or.inr ⟨(hw _ (List.mem_of_getElem? (i := 67) rfl)), rfl, hnm⟩) (hw _ (List.mem_of_getElem? (i := 9) rfl)) (ty := .int) (by decide) rfl rfl (g := (mkF m 17 #[.val (.ref o0), .val (.int p1), .val (.ref o2), .val (.ref o3), .val (.ref o4), .val (.ref o5)] [(.int p1), (.ref o0)])) rfl rfl (hb hby own_d8_17)
  have F_o0_index_834 := F_o0_index_824.same W834
  have S_dc_835 := S_dc_822.wr W834
  have E_o0_836 := E_o0_823.wr W834
  have F_o0_constraints_837 := F_o0_constraints_821.other W834 (Or.inr (slot_ne (Or.inr (hw _ (List.mem_of_getElem? (i := 65) rfl))) (Or.inr (hw _ (List.mem_of_getElem? (i := 67) rfl))) (by decide) (t := (.object "java/util/List")) (t' := .int) (by decide) (by decide)))
  have F_o0_name_838 := F_o0_name_825.other W834 (Or.inr (slot_ne (Or.inr (hw _ (List.mem_of_getElem? (i := 69) rfl))) (Or.inr (hw _ (List.mem_of_getElem? (i := 67) rfl))) (by decide) (t := (.object "java/lang/String")) (t' := .int) (by decide) (by decide)))
  have F_o0_values_839 := F_o0_values_826.other W834 (Or.inr (slot_ne (Or.inr (hw _ (List.mem_of_getElem? (i := 80) rfl))) (Or.inr (hw _ (List.mem_of_getElem? (i := 67) rfl))) (by decide) (t := (.array .int)) (t' := .int) (by decide) (by decide)))
  have F_o0_domain_840 := F_o0_domain_827.other W834 (Or.inr (slot_ne (Or.inr (hw _ (List.mem_of_getElem? (i := 98) rfl))) (Or.inr (hw _ (List.mem_of_getElem? (i := 67) rfl))) (by decide) (t := (.object "com/example/arcwise/arcwise/network/Domain")) (t' := .int) (by decide) (by decide)))
  have F_o0_assignmentListeners_841 := F_o0_assignmentListeners_828.other W834 (Or.inr (slot_ne (Or.inr (hw _ (List.mem_of_getElem? (i := 100) rfl))) (Or.inr (hw _ (List.mem_of_getElem? (i := 67) rfl))) (by decide) (t := (.object "java/util/List")) (t' := .int) (by decide) (by decide)))
  have V_o3_842 := V_o3_829.other W834 (Ne.symm ne_o0_o3)
  have E_o3_843 := E_o3_830.wr W834
  have Q807_844 := Q807_831.wr W834
  have Kp845 : Keep h0 _ [o0] := Kp832.wr W834 (Or.inl (List.mem_of_getElem? (i := 0) rfl))
  have Z846 := Nat.le_trans Z833 (Keep.of_wr W834).1
  obtain ⟨L834, X834, N834⟩ := own_gl X834 (Fr.snoc X834 N821 g_o0)
  refine own_back st834 ?_
  show own_End p e below s _ _ _ (T834.setTop (mkF m 20 #[.val (.ref o0), .val (.int p1), .val (.ref o2), .val (.ref o3), .val (.ref o4), .val (.ref o5)] []))
  refine own_aloadN X834 hx (hb hby own_d8_20) rfl rfl (q := 21) rfl ?_
  refine own_aloadN X834 hx (hb hby own_d8_21) rfl rfl (q := 22) rfl ?_
  obtain ⟨T847, h847, X847, e847, W847, st847⟩ := putF X834 hx hZ hown (host := "") (Or.inl (hw _ (List.mem_of_getElem? (i := 68) rfl))) Via.refl e834 F_o0_name_838 E_o0_836 (Or.inr ⟨(hw _ (List.mem_of_getElem? (i := 69) rfl)), rfl, hnm⟩) (hw _ (List.mem_of_getElem? (i := 9) rfl)) (ty := (.object "java/lang/String")) (by decide) rfl rfl (g := (mkF m 22 #[.val (.ref o0), .val (.int p1), .val (.ref o2), .val (.ref o3), .val (.ref o4), .val (.ref o5)] [(.ref o2), (.ref o0)])) rfl rfl (hb hby own_d8_22)
  have F_o0_name_847 := F_o0_name_838.same W847
  have S_dc_848 := S_dc_835.wr W847
  have E_o0_849 := E_o0_836.wr W847
  have F_o0_constraints_850 := F_o0_constraints_837.other W847 (Or.inr (slot_ne (Or.inr (hw _ (List.mem_of_getElem? (i := 65) rfl))) (Or.inr (hw _ (List.mem_of_getElem? (i := 69) rfl))) (by decide) (t := (.object "java/util/List")) (t' := (.object "java/lang/String")) (by decide) (by decide)))
  have F_o0_index_851 := F_o0_index_834.other W847 (Or.inr (slot_ne (Or.inr (hw _ (List.mem_of_getElem? (i := 67) rfl))) (Or.inr (hw _ (List.mem_of_getElem? (i := 69) rfl))) (by decide) (t := .int) (t' := (.object "java/lang/String")) (by decide) (by decide)))
  have F_o0_values_852 := F_o0_values_839.other W847 (Or.inr (slot_ne (Or.inr (hw _ (List.mem_of_getElem? (i := 80) rfl))) (Or.inr (hw _ (List.mem_of_getElem? (i := 69) rfl))) (by decide) (t := (.array .int)) (t' := (.object "java/lang/String")) (by decide) (by decide)))
  have F_o0_domain_853 := F_o0_domain_840.other W847 (Or.inr (slot_ne (Or.inr (hw _ (List.mem_of_getElem? (i := 98) rfl))) (Or.inr (hw _ (List.mem_of_getElem? (i := 69) rfl))) (by decide) (t := (.object "com/example/arcwise/arcwise/network/Domain")) (t' := (.object "java/lang/String")) (by decide) (by decide)))
  have F_o0_assignmentListeners_854 := F_o0_assignmentListeners_841.other W847 (Or.inr (slot_ne (Or.inr (hw _ (List.mem_of_getElem? (i := 100) rfl))) (Or.inr (hw _ (List.mem_of_getElem? (i := 69) rfl))) (by decide) (t := (.object "java/util/List")) (t' := (.object "java/lang/String")) (by decide) (by decide)))
  have V_o3_855 := V_o3_842.other W847 (Ne.symm ne_o0_o3)
  have E_o3_856 := E_o3_843.wr W847
  have Q807_857 := Q807_844.wr W847
  have Kp858 : Keep h0 _ [o0] := Kp845.wr W847 (Or.inl (List.mem_of_getElem? (i := 0) rfl))
  have Z859 := Nat.le_trans Z846 (Keep.of_wr W847).1
  obtain ⟨L847, X847, N847⟩ := own_gl X847 (Fr.snoc X847 N834 g_o0)
  refine own_back st847 ?_
  show own_End p e below s _ _ _ (T847.setTop (mkF m 25 #[.val (.ref o0), .val (.int p1), .val (.ref o2), .val (.ref o3), .val (.ref o4), .val (.ref o5)] []))
  refine own_aloadN X847 hx (hb hby own_d8_25) rfl rfl (q := 26) rfl ?_
  refine own_aloadN X847 hx (hb hby own_d8_26) rfl rfl (q := 27) rfl ?_
  obtain ⟨T861, h861, X861, e861, E861, A861, Ex861, st861⟩ := cloneH X847 hx hZ hown (hw _ (List.mem_of_getElem? (i := 70) rfl)) (hw _ (List.mem_of_getElem? (i := 71) rfl)) (hw _ (List.mem_of_getElem? (i := 75) rfl)) (hw _ (List.mem_of_getElem? (i := 73) rfl)) (hw _ (List.mem_of_getElem? (i := 74) rfl)) (hw _ (List.mem_of_getElem? (i := 76) rfl)) e847 (Arv.arh V_o3_855) E_o3_856 (g := (mkF m 27 #[.val (.ref o0), .val (.int p1), .val (.ref o2), .val (.ref o3), .val (.ref o4), .val (.ref o5)] [(.ref o3), (.ref o0)])) rfl (by rw [hml]; rfl) rfl (hb hby own_d8_27) (by decide) (W := 1) (cap := 3) (by show 2 * 0 + _ ≤ _; exact Nat.le_of_eq rfl) (by decide) (by decide) (by decide) (by decide)
  obtain ⟨b861, g861⟩ : ∃ z, z = h847.size := ⟨_, rfl⟩
  have ne_o0_b861 : o0 ≠ b861 := Nat.ne_of_lt (Nat.lt_of_lt_of_le E_o0_849.lt (Nat.le_of_eq g861.symm))
  have ne_o3_b861 : o3 ≠ b861 := Nat.ne_of_lt (Nat.lt_of_lt_of_le V_o3_855.lt (Nat.le_of_eq g861.symm))
  have ne_b794_b861 : b794 ≠ b861 := Nat.ne_of_lt (Nat.lt_of_lt_of_le Q807_857.lt (Nat.le_of_eq g861.symm))
  have g_b861 : n0 ≤ b861 := Nat.le_trans Z859 (Nat.le_of_eq g861.symm)
  have sz_b861 : h0.size ≤ b861 := Nat.le_trans Kp858.1 (Nat.le_of_eq g861.symm)
  have Z862 := Nat.le_trans Z859 E861.1
  rw [← g861] at A861 Ex861 st861
  have S_dc_863 := S_dc_848.ext E861
  have E_o0_864 := E_o0_849.ext E861
  have F_o0_constraints_865 := F_o0_constraints_850.ext E861
  have F_o0_index_866 := F_o0_index_851.ext E861
  have F_o0_name_867 := F_o0_name_847.ext E861
  have F_o0_values_868 := F_o0_values_852.ext E861
  have F_o0_domain_869 := F_o0_domain_853.ext E861
  have F_o0_assignmentListeners_870 := F_o0_assignmentListeners_854.ext E861
  have V_o3_871 := V_o3_855.ext E861
  have E_o3_872 := E_o3_856.ext E861
  have Q807_873 := Q807_857.ext E861
  have Kp874 : Keep h0 _ [o0] := Kp858.ext E861
  have V_b861 : Arv Z h861 b861 k_o3 .int (3 : Int32) [(.int w_o3_0), (.int w_o3_1), (.int w_o3_2)] (.int (0 : Int32)) := A861
  refine own_back st861 ?_
  show own_End p e below s _ _ _ (T861.setTop (mkF m 30 #[.val (.ref o0), .val (.int p1), .val (.ref o2), .val (.ref o3), .val (.ref o4), .val (.ref o5)] [(.ref b861), (.ref o0)]))
  obtain ⟨T875, X875, e875, st875⟩ := castY X861 hx hZ hown (hw _ (List.mem_of_getElem? (i := 77) rfl)) e861 (Ins.self Ex861) (g := (mkF m 30 #[.val (.ref o0), .val (.int p1), .val (.ref o2), .val (.ref o3), .val (.ref o4), .val (.ref o5)] [(.ref b861), (.ref o0)])) rfl rfl (hb hby own_d8_30)
  refine own_back st875 ?_
  show own_End p e below s _ _ _ (T875.setTop (mkF m 33 #[.val (.ref o0), .val (.int p1), .val (.ref o2), .val (.ref o3), .val (.ref o4), .val (.ref o5)] [(.ref b861), (.ref o0)]))
  obtain ⟨T876, h876, X876, e876, W876, st876⟩ := putF X875 hx hZ hown (host := "") (Or.inl (hw _ (List.mem_of_getElem? (i := 79) rfl))) Via.refl e875 F_o0_values_868 E_o0_864 (Or.inr ⟨(hw _ (List.mem_of_getElem? (i := 80) rfl)), rfl, hnm⟩) (hw _ (List.mem_of_getElem? (i := 9) rfl)) (ty := (.array .int)) (by decide) rfl rfl (g := (mkF m 33 #[.val (.ref o0), .val (.int p1), .val (.ref o2), .val (.ref o3), .val (.ref o4), .val (.ref o5)] [(.ref b861), (.ref o0)])) rfl rfl (hb hby own_d8_33)
  have F_o0_values_876 := F_o0_values_868.same W876
  have S_dc_877 := S_dc_863.wr W876
  have E_o0_878 := E_o0_864.wr W876
  have F_o0_constraints_879 := F_o0_constraints_865.other W876 (Or.inr (slot_ne (Or.inr (hw _ (List.mem_of_getElem? (i := 65) rfl))) (Or.inr (hw _ (List.mem_of_getElem? (i := 80) rfl))) (by decide) (t := (.object "java/util/List")) (t' := (.array .int)) (by decide) (by decide)))
  have F_o0_index_880 := F_o0_index_866.other W876 (Or.inr (slot_ne (Or.inr (hw _ (List.mem_of_getElem? (i := 67) rfl))) (Or.inr (hw _ (List.mem_of_getElem? (i := 80) rfl))) (by decide) (t := .int) (t' := (.array .int)) (by decide) (by decide)))
  have F_o0_name_881 := F_o0_name_867.other W876 (Or.inr (slot_ne (Or.inr (hw _ (List.mem_of_getElem? (i := 69) rfl))) (Or.inr (hw _ (List.mem_of_getElem? (i := 80) rfl))) (by decide) (t := (.object "java/lang/String")) (t' := (.array .int)) (by decide) (by decide)))
  have F_o0_domain_882 := F_o0_domain_869.other W876 (Or.inr (slot_ne (Or.inr (hw _ (List.mem_of_getElem? (i := 98) rfl))) (Or.inr (hw _ (List.mem_of_getElem? (i := 80) rfl))) (by decide) (t := (.object "com/example/arcwise/arcwise/network/Domain")) (t' := (.array .int)) (by decide) (by decide)))
  have F_o0_assignmentListeners_883 := F_o0_assignmentListeners_870.other W876 (Or.inr (slot_ne (Or.inr (hw _ (List.mem_of_getElem? (i := 100) rfl))) (Or.inr (hw _ (List.mem_of_getElem? (i := 80) rfl))) (by decide) (t := (.object "java/util/List")) (t' := (.array .int)) (by decide) (by decide)))
  have V_o3_884 := V_o3_871.other W876 (Ne.symm ne_o0_o3)
  have E_o3_885 := E_o3_872.wr W876
  have Q807_886 := Q807_873.wr W876
  have V_b861_887 := V_b861.other W876 (Ne.symm ne_o0_b861)
  have Ex861_888 := Ex861.wr W876
  have Kp889 : Keep h0 _ [o0] := Kp874.wr W876 (Or.inl (List.mem_of_getElem? (i := 0) rfl))
  have Z890 := Nat.le_trans Z862 (Keep.of_wr W876).1
  obtain ⟨L876, X876, N876⟩ := own_gl X876 (Fr.snoc X876 N847 g_o0)
  refine own_back st876 ?_
  show own_End p e below s _ _ _ (T876.setTop (mkF m 36 #[.val (.ref o0), .val (.int p1), .val (.ref o2), .val (.ref o3), .val (.ref o4), .val (.ref o5)] []))
  refine own_aloadN X876 hx (hb hby own_d8_36) rfl rfl (q := 37) rfl ?_
  obtain ⟨T891, h891, X891, e891, E891, A891, D891, -, st891⟩ := newO X876 hx hZ hown (hw _ (List.mem_of_getElem? (i := 81) rfl)) (hw _ (List.mem_of_getElem? (i := 82) rfl)) (hw _ (List.mem_of_getElem? (i := 83) rfl)) e876 (g := (mkF m 37 #[.val (.ref o0), .val (.int p1), .val (.ref o2), .val (.ref o3), .val (.ref o4), .val (.ref o5)] [(.ref o0)])) rfl (hb hby own_d8_37) (by decide) (by decide)
  obtain ⟨b891, g891⟩ : ∃ z, z = h876.size := ⟨_, rfl⟩
  have ne_o0_b891 : o0 ≠ b891 := Nat.ne_of_lt (Nat.lt_of_lt_of_le E_o0_878.lt (Nat.le_of_eq g891.symm))
  have ne_o3_b891 : o3 ≠ b891 := Nat.ne_of_lt (Nat.lt_of_lt_of_le V_o3_884.lt (Nat.le_of_eq g891.symm))
  have ne_b794_b891 : b794 ≠ b891 := Nat.ne_of_lt (Nat.lt_of_lt_of_le Q807_886.lt (Nat.le_of_eq g891.symm))
  have ne_b861_b891 : b861 ≠ b891 := Nat.ne_of_lt (Nat.lt_of_lt_of_le V_b861_887.lt (Nat.le_of_eq g891.symm))
  have g_b891 : n0 ≤ b891 := Nat.le_trans Z890 (Nat.le_of_eq g891.symm)
  have sz_b891 : h0.size ≤ b891 := Nat.le_trans Kp889.1 (Nat.le_of_eq g891.symm)
  have Z892 := Nat.le_trans Z890 E891.1
  rw [← g891] at A891 D891 st891
  have S_dc_893 := S_dc_877.ext E891
  have E_o0_894 := E_o0_878.ext E891
  have F_o0_constraints_895 := F_o0_constraints_879.ext E891
  have F_o0_index_896 := F_o0_index_880.ext E891
  have F_o0_name_897 := F_o0_name_881.ext E891
  have F_o0_values_898 := F_o0_values_876.ext E891
  have F_o0_domain_899 := F_o0_domain_882.ext E891
  have F_o0_assignmentListeners_900 := F_o0_assignmentListeners_883.ext E891
  have V_o3_901 := V_o3_884.ext E891
  have E_o3_902 := E_o3_885.ext E891
  have Q807_903 := Q807_886.ext E891
  have V_b861_904 := V_b861_887.ext E891
  have Ex861_905 := Ex861_888.ext E891
  have Kp906 : Keep h0 _ [o0] := Kp889.ext E891
  have F_b891_trail : Fld Z h891 b891 "com/example/arcwise/arcwise/network/Domain" "trail" "Lcom/example/arcwise/arcwise/network/Trail;" .null := D891 (Or.inr (hw _ (List.mem_of_getElem? (i := 89) rfl))) (ty := (.object "com/example/arcwise/arcwise/network/Trail")) (by decide)
  have F_b891_words : Fld Z h891 b891 "com/example/arcwise/arcwise/network/Domain" "words" "[J" .null := D891 (Or.inr (hw _ (List.mem_of_getElem? (i := 92) rfl))) (ty := (.array .long)) (by decide)
  have F_b891_initialSize : Fld Z h891 b891 "com/example/arcwise/arcwise/network/Domain" "initialSize" "I" (.int (0 : Int32)) := D891 (Or.inr (hw _ (List.mem_of_getElem? (i := 94) rfl))) (ty := .int) (by decide)
  have F_b891_size : Fld Z h891 b891 "com/example/arcwise/arcwise/network/Domain" "size" "I" (.int (0 : Int32)) := D891 (Or.inl (hw _ (List.mem_of_getElem? (i := 96) rfl))) (ty := .int) (by decide)
  refine own_back st891 ?_
  show own_End p e below s _ _ _ (T891.setTop (mkF m 40 #[.val (.ref o0), .val (.int p1), .val (.ref o2), .val (.ref o3), .val (.ref o4), .val (.ref o5)] [(.ref b891), (.ref o0)]))
  refine own_dup X891 hx (hb hby own_d8_40) rfl (q := 41) rfl ?_
  refine own_aloadN X891 hx (hb hby own_d8_41) rfl rfl (q := 42) rfl ?_
  obtain ⟨cl907, Ar907, q907, S907, N907v, H907, G907⟩ := id V_o3_901
  refine own_back (X891.arraylength hx (by rw [e891]; exact Ar907.1) (State.isArrayOf_alike hZ.alike Ar907.2.1) (g := (mkF m 42 #[.val (.ref o0), .val (.int p1), .val (.ref o2), .val (.ref o3), .val (.ref o4), .val (.ref o5)] [(.ref o3), (.ref b891), (.ref b891), (.ref o0)])) rfl rfl (hb hby own_d8_42)) ?_
  rw [len_of S907 N907v]
  show own_End p e below s _ _ _ (T891.setTop (mkF m 43 #[.val (.ref o0), .val (.int p1), .val (.ref o2), .val (.ref o3), .val (.ref o4), .val (.ref o5)] [(.int (3 : Int32)), (.ref b891), (.ref b891), (.ref o0)]))
  refine own_aload X891 hx (hb hby own_d8_43) rfl rfl (q := 45) rfl ?_
  obtain ⟨T908, Lc908, L908, X908, N908, hQ908, st908⟩ := own_shutV (val := none) (Q := own_Q9_3 Z b891 o4 .null .null (0 : Int32) (0 : Int32) h891 n0) (rc := 1) (rs := 1) N876 (fun _ _ _ q => ⟨q.1, q.2.1⟩) (X891.specialBack hx (y := (⟨"com/example/arcwise/arcwise/network/Domain", "<init>", "(ILcom/example/arcwise/arcwise/network/Trail;)V"⟩ : MethodName)) rfl hown (mvT hZ (hw _ (List.mem_of_getElem? (i := 84) rfl))) (mvT hZ (hw _ (List.mem_of_getElem? (i := 85) rfl))) (mvT hZ (hw _ (List.mem_of_getElem? (i := 86) rfl))) (by decide) (backOf (W := 2) (own_rm9_3 l Z a0 hw [] b891 o4 .null .null (0 : Int32) (0 : Int32) h891 n0 Z892 A891 F_b891_trail F_b891_words F_b891_initialSize F_b891_size g_b891) hZ (hw _ (List.mem_of_getElem? (i := 86) rfl)) (hw _ (List.mem_of_getElem? (i := 83) rfl)) (by decide) (by decide)) (g := (mkF m 45 #[.val (.ref o0), .val (.int p1), .val (.ref o2), .val (.ref o3), .val (.ref o4), .val (.ref o5)] [(.ref o4), (.int (3 : Int32)), (.ref b891), (.ref b891), (.ref o0)])) rfl (by rw [hml]; rfl) (Steps.refl _) (a := b891) (argsL := [(.int (3 : Int32)), (.ref o4)]) (rest := [(.ref b891), (.ref o0)]) (lenOf own_pd1 rfl) rfl (by show 2 * 0 + _ ≤ _; exact Nat.le_of_eq rfl) (hb hby own_d8_45) (fun _ _ => ⟨rfl, e891, (by decide : 3 + 1 ≤ _), (by decide : 11 + 1 ≤ _)⟩))
  obtain ⟨-, -, K908, Q908_0⟩ := hQ908
  have S_dc_909 := own_StaK S_dc_893 K908 (allS (P := fun o => ∃ C, Exa Z _ o C) ⟨_, A891⟩ all0)
  have E_o0_910 := E_o0_894.keep K908
  have F_o0_constraints_911 := F_o0_constraints_895.keep K908 (ninS ne_o0_b891 nin0)
  have F_o0_index_912 := F_o0_index_896.keep K908 (ninS ne_o0_b891 nin0)
  have F_o0_name_913 := F_o0_name_897.keep K908 (ninS ne_o0_b891 nin0)
  have F_o0_values_914 := F_o0_values_898.keep K908 (ninS ne_o0_b891 nin0)
  have F_o0_domain_915 := F_o0_domain_899.keep K908 (ninS ne_o0_b891 nin0)
  have F_o0_assignmentListeners_916 := F_o0_assignmentListeners_900.keep K908 (ninS ne_o0_b891 nin0)
  have V_o3_917 := V_o3_901.keep K908 (ninS ne_o3_b891 nin0)
  have E_o3_918 := E_o3_902.keep K908
  have Q807_919 := Q807_903.keep K908
  have V_b861_920 := V_b861_904.keep K908 (ninS ne_b861_b891 nin0)
  have Ex861_921 := Ex861_905.keep K908
  have A891_922 := A891.keep K908
  have Kp923 : Keep h0 _ [o0] := Kp906.trans K908 (allS (Or.inr sz_b891) all0)
  have Z924 := Nat.le_trans Z892 K908.1
  refine own_via st908 ?_
  show own_End p e below s _ _ _ (T908.setTop (mkF m 48 #[.val (.ref o0), .val (.int p1), .val (.ref o2), .val (.ref o3), .val (.ref o4), .val (.ref o5)] [(.ref b891), (.ref o0)]))
  obtain ⟨T925, h925, X925, e925, W925, st925⟩ := putF X908 hx hZ hown (host := "") (Or.inl (hw _ (List.mem_of_getElem? (i := 97) rfl))) Via.refl rfl F_o0_domain_915 E_o0_910 (Or.inr ⟨(hw _ (List.mem_of_getElem? (i := 98) rfl)), rfl, hnm⟩) (hw _ (List.mem_of_getElem? (i := 9) rfl)) (ty := (.object "com/example/arcwise/arcwise/network/Domain")) (by decide) rfl rfl (g := (mkF m 48 #[.val (.ref o0), .val (.int p1), .val (.ref o2), .val (.ref o3), .val (.ref o4), .val (.ref o5)] [(.ref b891), (.ref o0)])) rfl rfl (hb hby own_d8_48)
  have F_o0_domain_925 := F_o0_domain_915.same W925
  have S_dc_926 := S_dc_909.wr W925
  have E_o0_927 := E_o0_910.wr W925
  have F_o0_constraints_928 := F_o0_constraints_911.other W925 (Or.inr (slot_ne (Or.inr (hw _ (List.mem_of_getElem? (i := 65) rfl))) (Or.inr (hw _ (List.mem_of_getElem? (i := 98) rfl))) (by decide) (t := (.object "java/util/List")) (t' := (.object "com/example/arcwise/arcwise/network/Domain")) (by decide) (by decide)))
  have F_o0_index_929 := F_o0_index_912.other W925 (Or.inr (slot_ne (Or.inr (hw _ (List.mem_of_getElem? (i := 67) rfl))) (Or.inr (hw _ (List.mem_of_getElem? (i := 98) rfl))) (by decide) (t := .int) (t' := (.object "com/example/arcwise/arcwise/network/Domain")) (by decide) (by decide)))
  have F_o0_name_930 := F_o0_name_913.other W925 (Or.inr (slot_ne (Or.inr (hw _ (List.mem_of_getElem? (i := 69) rfl))) (Or.inr (hw _ (List.mem_of_getElem? (i := 98) rfl))) (by decide) (t := (.object "java/lang/String")) (t' := (.object "com/example/arcwise/arcwise/network/Domain")) (by decide) (by decide)))
  have F_o0_values_931 := F_o0_values_914.other W925 (Or.inr (slot_ne (Or.inr (hw _ (List.mem_of_getElem? (i := 80) rfl))) (Or.inr (hw _ (List.mem_of_getElem? (i := 98) rfl))) (by decide) (t := (.array .int)) (t' := (.object "com/example/arcwise/arcwise/network/Domain")) (by decide) (by decide)))
  have F_o0_assignmentListeners_932 := F_o0_assignmentListeners_916.other W925 (Or.inr (slot_ne (Or.inr (hw _ (List.mem_of_getElem? (i := 100) rfl))) (Or.inr (hw _ (List.mem_of_getElem? (i := 98) rfl))) (by decide) (t := (.object "java/util/List")) (t' := (.object "com/example/arcwise/arcwise/network/Domain")) (by decide) (by decide)))
  have V_o3_933 := V_o3_917.other W925 (Ne.symm ne_o0_o3)
  have E_o3_934 := E_o3_918.wr W925
  have Q807_935 := Q807_919.wr W925
  have V_b861_936 := V_b861_920.other W925 (Ne.symm ne_o0_b861)
  have Ex861_937 := Ex861_921.wr W925
  have Q908_938 := Q908_0.wr W925
  have Kp939 : Keep h0 _ [o0] := Kp923.wr W925 (Or.inl (List.mem_of_getElem? (i := 0) rfl))
  have Z940 := Nat.le_trans Z924 (Keep.of_wr W925).1
  obtain ⟨L925, X925, N925⟩ := own_gl X925 (Fr.snoc X925 N908 g_o0)
  refine own_back st925 ?_
  show own_End p e below s _ _ _ (T925.setTop (mkF m 51 #[.val (.ref o0), .val (.int p1), .val (.ref o2), .val (.ref o3), .val (.ref o4), .val (.ref o5)] []))
  refine own_aloadN X925 hx (hb hby own_d8_51) rfl rfl (q := 52) rfl ?_
  refine own_aload X925 hx (hb hby own_d8_52) rfl rfl (q := 54) rfl ?_
  obtain ⟨T941, h941, X941, e941, W941, st941⟩ := putF X925 hx hZ hown (host := "") (Or.inl (hw _ (List.mem_of_getElem? (i := 99) rfl))) Via.refl e925 F_o0_assignmentListeners_932 E_o0_927 (Or.inr ⟨(hw _ (List.mem_of_getElem? (i := 100) rfl)), rfl, hnm⟩) (hw _ (List.mem_of_getElem? (i := 9) rfl)) (ty := (.object "java/util/List")) (by decide) rfl rfl (g := (mkF m 54 #[.val (.ref o0), .val (.int p1), .val (.ref o2), .val (.ref o3), .val (.ref o4), .val (.ref o5)] [(.ref o5), (.ref o0)])) rfl rfl (hb hby own_d8_54)
  have F_o0_assignmentListeners_941 := F_o0_assignmentListeners_932.same W941
  have S_dc_942 := S_dc_926.wr W941
  have E_o0_943 := E_o0_927.wr W941
  have F_o0_constraints_944 := F_o0_constraints_928.other W941 (Or.inr (slot_ne (Or.inr (hw _ (List.mem_of_getElem? (i := 65) rfl))) (Or.inr (hw _ (List.mem_of_getElem? (i := 100) rfl))) (by decide) (t := (.object "java/util/List")) (t' := (.object "java/util/List")) (by decide) (by decide)))
  have F_o0_index_945 := F_o0_index_929.other W941 (Or.inr (slot_ne (Or.inr (hw _ (List.mem_of_getElem? (i := 67) rfl))) (Or.inr (hw _ (List.mem_of_getElem? (i := 100) rfl))) (by decide) (t := .int) (t' := (.object "java/util/List")) (by decide) (by decide)))
  have F_o0_name_946 := F_o0_name_930.other W941 (Or.inr (slot_ne (Or.inr (hw _ (List.mem_of_getElem? (i := 69) rfl))) (Or.inr (hw _ (List.mem_of_getElem? (i := 100) rfl))) (by decide) (t := (.object "java/lang/String")) (t' := (.object "java/util/List")) (by decide) (by decide)))
  have F_o0_values_947 := F_o0_values_931.other W941 (Or.inr (slot_ne (Or.inr (hw _ (List.mem_of_getElem? (i := 80) rfl))) (Or.inr (hw _ (List.mem_of_getElem? (i := 100) rfl))) (by decide) (t := (.array .int)) (t' := (.object "java/util/List")) (by decide) (by decide)))
  have F_o0_domain_948 := F_o0_domain_925.other W941 (Or.inr (slot_ne (Or.inr (hw _ (List.mem_of_getElem? (i := 98) rfl))) (Or.inr (hw _ (List.mem_of_getElem? (i := 100) rfl))) (by decide) (t := (.object "com/example/arcwise/arcwise/network/Domain")) (t' := (.object "java/util/List")) (by decide) (by decide)))
  have V_o3_949 := V_o3_933.other W941 (Ne.symm ne_o0_o3)
  have E_o3_950 := E_o3_934.wr W941
  have Q807_951 := Q807_935.wr W941
  have V_b861_952 := V_b861_936.other W941 (Ne.symm ne_o0_b861)
  have Ex861_953 := Ex861_937.wr W941
  have Q908_954 := Q908_938.wr W941
  have Kp955 : Keep h0 _ [o0] := Kp939.wr W941 (Or.inl (List.mem_of_getElem? (i := 0) rfl))
  have Z956 := Nat.le_trans Z940 (Keep.of_wr W941).1
  obtain ⟨L941, X941, N941⟩ := own_gl X941 (Fr.snoc X941 N925 g_o0)
  refine own_back st941 ?_
  show own_End p e below s _ _ _ (T941.setTop (mkF m 57 #[.val (.ref o0), .val (.int p1), .val (.ref o2), .val (.ref o3), .val (.ref o4), .val (.ref o5)] []))
  refine own_retV X941 hx Bd.returns Bd.notSynchronized (by decide) (by decide) (hb hby own_d8_57) ?_
  show own_Q8_3 Z o0 p1 o2 o3 o4 o5 w_o0_constraints w_o0_index w_o0_name w_o0_values w_o0_domain w_o0_assignmentListeners k_o3 w_o3_0 w_o3_1 w_o3_2 sa h0 n0 _ T941.heap _
  rw [e941]
  exact ⟨rfl, N941, Kp955, b861, k_o3, sz_b861, E_o0_943, F_o0_values_947, Ex861_953, V_b861_952⟩
def own_F10_3 (q1 : Int64) (w_w_o0_values_0 : Int32) (w_w_o0_values_1 : Int32) (w_w_o0_values_2 : Int32) : Int32 := (if (w_w_o0_values_1.toInt64) < q1 then (if (w_w_o0_values_2.toInt64) < q1 then (3 : Int32) else (2 : Int32)) else (if (w_w_o0_values_0.toInt64) < q1 then (1 : Int32) else (0 : Int32)))
def own_Q10_3 (Z : State) (o0 : Addr) (q1 : Int64) (w_o0_values : Addr) (k_w_o0_values : ClassId) (w_w_o0_values_0 : Int32) (w_w_o0_values_1 : Int32) (w_w_o0_values_2 : Int32) (h0 : Heap) (n0 : Nat) (v : Option Value) (h : Heap) (L : List Loc) : Prop := v = some (.int (own_F10_3 q1 w_w_o0_values_0 w_w_o0_values_1 w_w_o0_values_2)) ∧ Fr n0 L ∧ h = h0
theorem own_pn_rm10_3 : plainName "com/example/arcwise/arcwise/network/Variable" = true := by first | (simp [plainName, overriddenIn]; done) | decide +kernel
theorem own_ef_rm10_3 (m : MethodId) (o0 : Addr) (q1 : Int64) : entryFrame m #[(.ref o0), (.long q1)] 6 = mkF m 0 #[.val (.ref o0), .val (.long q1), .second, .unset, .unset, .unset] [] := by first | (simp [entryFrame, mkF, argsToLocals, Value.category]; done) | rfl
set_option maxRecDepth 65536 in
set_option maxHeartbeats 40000000 in
theorem own_rm10_3 (l : Launch) (Z : State) (a0 : Array Value) (hw : ∀ d ∈ tables_1, d.before a0 Z = true) (ws : List Jvm.Cond) (o0 : Addr) (q1 : Int64) (w_o0_values : Addr) (k_w_o0_values : ClassId) (w_w_o0_values_0 : Int32) (w_w_o0_values_1 : Int32) (w_w_o0_values_2 : Int32) (h0 : Heap) (n0 : Nat) (Z0 : n0 ≤ h0.size) (E_o0 : Exa Z h0 o0 "com/example/arcwise/arcwise/network/Variable") (F_o0_values : Fld Z h0 o0 "com/example/arcwise/arcwise/network/Variable" "values" "[I" (.ref w_o0_values)) (V_w_o0_values : Arv Z h0 w_o0_values k_w_o0_values .int (3 : Int32) [(.int w_w_o0_values_0), (.int w_w_o0_values_1), (.int w_w_o0_values_2)] (.int (0 : Int32))) :
    MetFree l (⟨"com/example/arcwise/arcwise/network/Variable", "indexAtLeast", "(J)I"⟩ : MethodName) (head1 (Jvm.Cond.code (⟨"com/example/arcwise/arcwise/network/Variable", "indexAtLeast", "(J)I"⟩ : MethodName) prog_62_method_6_code 6 (some .int) :: ws) ({ frames := 0, cells := 0, slots := 0, locals := 0 } : Room)) (fun a U => a = #[(.ref o0), (.long q1)] ∧ Z.Warmed39 U.vm ∧ U.heap = h0) (fun _ _ _ _ _ => True) (fun _ U o U' => ∃ v L, o = .returned v ∧ own_Q10_3 Z o0 q1 w_o0_values k_w_o0_values w_w_o0_values_0 w_w_o0_values_1 w_w_o0_values_2 h0 n0 v U'.heap L ∧ FrameEnd U o U' L ({ frames := 0, cells := 0, slots := 0, locals := 0 } : Room).cells ({ frames := 0, cells := 0, slots := 0, locals := 0 } : Room).slots) := by
  refine MetFree.of_bodySF (plainFor_of_name own_pn_rm10_3) hisR ?_
  intro p e s m args below meth c s₁ Bd hml0 hP hK
  obtain ⟨rfl, hZ, hh⟩ := hP
  have hx := Bd.exec
  have hby := Bd.bytes
  have hml : c.maxLocals = 6 := hml0
  have hown : s.vm.findClass "com/example/arcwise/arcwise/network/Variable" = some m.cls := findClass_of_methodNamed Bd.named
  have hnm := (name_of_methodNamed Bd.named Bd.method).1
  have X0 : Stand p l e ({ frames := 0, cells := 0, slots := 0, locals := 0 } : Room) s m #[(.ref o0), (.long q1)] below meth c s₁ [] 0 0 := Stand.of_body Bd
  have e0 : s₁.heap = h0 := by rw [← hh, Bd.state]; rfl
  have N0 := Fr.nil n0
  show own_End p e below s (own_Q10_3 Z o0 q1 w_o0_values k_w_o0_values w_w_o0_values_0 w_w_o0_values_1 w_w_o0_values_2 h0 n0) ({ frames := 0, cells := 0, slots := 0, locals := 0 } : Room).cells ({ frames := 0, cells := 0, slots := 0, locals := 0 } : Room).slots (s₁.setTop (entryFrame m #[(.ref o0), (.long q1)] 6))
  rw [own_ef_rm10_3]
  refine own_iconst X0 hx (hb hby own_d10_0) (z := 0) rfl (q := 1) rfl ?_
  refine own_istoreN X0 hx (hb hby own_d10_1) (l' := #[.val (.ref o0), .val (.long q1), .second, .val (.int (0 : Int32)), .unset, .unset]) rfl (q := 2) rfl ?_
  refine own_aloadN X0 hx (hb hby own_d10_2) rfl rfl (q := 3) rfl ?_
  obtain ⟨T958, X958, e958, st958⟩ := getF X0 hx hZ hown (host := "") (Or.inl (hw _ (List.mem_of_getElem? (i := 79) rfl))) Via.refl e0 F_o0_values (g := (mkF m 3 #[.val (.ref o0), .val (.long q1), .second, .val (.int (0 : Int32)), .unset, .unset] [(.ref o0)])) rfl rfl (hb hby own_d10_3)
  refine own_back st958 ?_
  show own_End p e below s _ _ _ (T958.setTop (mkF m 6 #[.val (.ref o0), .val (.long q1), .second, .val (.int (0 : Int32)), .unset, .unset] [(.ref w_o0_values)]))
  obtain ⟨cl959, Ar959, q959, S959, N959v, H959, G959⟩ := id V_w_o0_values
  refine own_back (X958.arraylength hx (by rw [e958]; exact Ar959.1) (State.isArrayOf_alike hZ.alike Ar959.2.1) (g := (mkF m 6 #[.val (.ref o0), .val (.long q1), .second, .val (.int (0 : Int32)), .unset, .unset] [(.ref w_o0_values)])) rfl rfl (hb hby own_d10_6)) ?_
  rw [len_of S959 N959v]
  show own_End p e below s _ _ _ (T958.setTop (mkF m 7 #[.val (.ref o0), .val (.long q1), .second, .val (.int (0 : Int32)), .unset, .unset] [(.int (3 : Int32))]))
  refine own_istore X958 hx (hb hby own_d10_7) (l' := #[.val (.ref o0), .val (.long q1), .second, .val (.int (0 : Int32)), .val (.int (3 : Int32)), .unset]) rfl (q := 9) rfl ?_
  refine own_iloadN X958 hx (hb hby own_d10_9) rfl (q := 10) rfl ?_
  refine own_iload X958 hx (hb hby own_d10_10) rfl (q := 12) rfl ?_
  refine own_icN X958 hx (hb hby own_d10_12) (tlt (by decide : ((0 : Int32) < (3 : Int32)))).2.1 (q := 15) rfl ?_
  refine own_iloadN X958 hx (hb hby own_d10_15) rfl (q := 16) rfl ?_
  refine own_iload X958 hx (hb hby own_d10_16) rfl (q := 18) rfl ?_
  refine own_iadd X958 hx (hb hby own_d10_18) (q := 19) rfl ?_
  show own_End p e below s _ _ _ (T958.setTop (mkF m 19 #[.val (.ref o0), .val (.long q1), .second, .val (.int (0 : Int32)), .val (.int (3 : Int32)), .unset] [(.int (3 : Int32))]))
  refine own_iconst X958 hx (hb hby own_d10_19) (z := 1) rfl (q := 20) rfl ?_
  refine own_iushr X958 hx (hb hby own_d10_20) (q := 21) rfl ?_
  show own_End p e below s _ _ _ (T958.setTop (mkF m 21 #[.val (.ref o0), .val (.long q1), .second, .val (.int (0 : Int32)), .val (.int (3 : Int32)), .unset] [(.int (1 : Int32))]))
  refine own_istore X958 hx (hb hby own_d10_21) (l' := #[.val (.ref o0), .val (.long q1), .second, .val (.int (0 : Int32)), .val (.int (3 : Int32)), .val (.int (1 : Int32))]) rfl (q := 23) rfl ?_
  refine own_aloadN X958 hx (hb hby own_d10_23) rfl rfl (q := 24) rfl ?_
  obtain ⟨T960, X960, e960, st960⟩ := getF X958 hx hZ hown (host := "") (Or.inl (hw _ (List.mem_of_getElem? (i := 79) rfl))) Via.refl e958 F_o0_values (g := (mkF m 24 #[.val (.ref o0), .val (.long q1), .second, .val (.int (0 : Int32)), .val (.int (3 : Int32)), .val (.int (1 : Int32))] [(.ref o0)])) rfl rfl (hb hby own_d10_24)
  refine own_back st960 ?_
  show own_End p e below s _ _ _ (T960.setTop (mkF m 27 #[.val (.ref o0), .val (.long q1), .second, .val (.int (0 : Int32)), .val (.int (3 : Int32)), .val (.int (1 : Int32))] [(.ref w_o0_values)]))
  refine own_iload X960 hx (hb hby own_d10_27) rfl (q := 29) rfl ?_
  obtain ⟨cl961, Ar961, q961, S961, N961v, H961, G961⟩ := id V_w_o0_values
  have hin961 : ¬ ((1 : Int32) < 0 ∨ cl961.slots.size ≤ ((1 : Int32)).toNatClampNeg) := inb_of S961 ⟨by decide, by decide⟩
  refine own_back (X960.iaload hx (j := (1 : Int32)) (v := (.int w_w_o0_values_1)) (by rw [e960]; exact Ar961.1) (State.isArrayOf_alike hZ.alike Ar961.2.1) Ar961.2.2 hin961 (Has.at H961 hin961 rfl) (g := (mkF m 29 #[.val (.ref o0), .val (.long q1), .second, .val (.int (0 : Int32)), .val (.int (3 : Int32)), .val (.int (1 : Int32))] [(.int (1 : Int32)), (.ref w_o0_values)])) rfl rfl (hb hby own_d10_29)) ?_
  show own_End p e below s _ _ _ (T960.setTop (mkF m 30 #[.val (.ref o0), .val (.long q1), .second, .val (.int (0 : Int32)), .val (.int (3 : Int32)), .val (.int (1 : Int32))] [(.int w_w_o0_values_1)]))
  refine own_i2l X960 hx (hb hby own_d10_30) (q := 31) rfl ?_
  refine own_lloadN X960 hx (hb hby own_d10_31) rfl (q := 32) rfl ?_
  by_cases hc33_962 : (w_w_o0_values_1.toInt64) < q1
  · refine own_lcN X960 hx (hb hby own_d10_32) (r := 33) rfl (hb hby own_d10_33) (own_tlt hc33_962).2.1 (q := 36) rfl ?_
    refine own_iload X960 hx (hb hby own_d10_36) rfl (q := 38) rfl ?_
    refine own_iconst X960 hx (hb hby own_d10_38) (z := 1) rfl (q := 39) rfl ?_
    refine own_iadd X960 hx (hb hby own_d10_39) (q := 40) rfl ?_
    show own_End p e below s _ _ _ (T960.setTop (mkF m 40 #[.val (.ref o0), .val (.long q1), .second, .val (.int (0 : Int32)), .val (.int (3 : Int32)), .val (.int (1 : Int32))] [(.int (2 : Int32))]))
    refine own_istoreN X960 hx (hb hby own_d10_40) (l' := #[.val (.ref o0), .val (.long q1), .second, .val (.int (2 : Int32)), .val (.int (3 : Int32)), .val (.int (1 : Int32))]) rfl (q := 41) rfl ?_
    refine own_goto X960 hx (hb hby own_d10_41) (q := 48) (by decide) (by decide) ?_
    refine own_goto X960 hx (hb hby own_d10_48) (q := 9) (by decide) (by decide) ?_
    refine own_iloadN X960 hx (hb hby own_d10_9) rfl (q := 10) rfl ?_
    refine own_iload X960 hx (hb hby own_d10_10) rfl (q := 12) rfl ?_
    refine own_icN X960 hx (hb hby own_d10_12) (tlt (by decide : ((2 : Int32) < (3 : Int32)))).2.1 (q := 15) rfl ?_
    refine own_iloadN X960 hx (hb hby own_d10_15) rfl (q := 16) rfl ?_
    refine own_iload X960 hx (hb hby own_d10_16) rfl (q := 18) rfl ?_
    refine own_iadd X960 hx (hb hby own_d10_18) (q := 19) rfl ?_
    show own_End p e below s _ _ _ (T960.setTop (mkF m 19 #[.val (.ref o0), .val (.long q1), .second, .val (.int (2 : Int32)), .val (.int (3 : Int32)), .val (.int (1 : Int32))] [(.int (5 : Int32))]))
    refine own_iconst X960 hx (hb hby own_d10_19) (z := 1) rfl (q := 20) rfl ?_
    refine own_iushr X960 hx (hb hby own_d10_20) (q := 21) rfl ?_
    show own_End p e below s _ _ _ (T960.setTop (mkF m 21 #[.val (.ref o0), .val (.long q1), .second, .val (.int (2 : Int32)), .val (.int (3 : Int32)), .val (.int (1 : Int32))] [(.int (2 : Int32))]))
    refine own_istore X960 hx (hb hby own_d10_21) (l' := #[.val (.ref o0), .val (.long q1), .second, .val (.int (2 : Int32)), .val (.int (3 : Int32)), .val (.int (2 : Int32))]) rfl (q := 23) rfl ?_
    refine own_aloadN X960 hx (hb hby own_d10_23) rfl rfl (q := 24) rfl ?_
    obtain ⟨T963, X963, e963, st963⟩ := getF X960 hx hZ hown (host := "") (Or.inl (hw _ (List.mem_of_getElem? (i := 79) rfl))) Via.refl e960 F_o0_values (g := (mkF m 24 #[.val (.ref o0), .val (.long q1), .second, .val (.int (2 : Int32)), .val (.int (3 : Int32)), .val (.int (2 : Int32))] [(.ref o0)])) rfl rfl (hb hby own_d10_24)
    refine own_back st963 ?_
    show own_End p e below s _ _ _ (T963.setTop (mkF m 27 #[.val (.ref o0), .val (.long q1), .second, .val (.int (2 : Int32)), .val (.int (3 : Int32)), .val (.int (2 : Int32))] [(.ref w_o0_values)]))
    refine own_iload X963 hx (hb hby own_d10_27) rfl (q := 29) rfl ?_
    obtain ⟨cl964, Ar964, q964, S964, N964v, H964, G964⟩ := id V_w_o0_values
    have hin964 : ¬ ((2 : Int32) < 0 ∨ cl964.slots.size ≤ ((2 : Int32)).toNatClampNeg) := inb_of S964 ⟨by decide, by decide⟩
    refine own_back (X963.iaload hx (j := (2 : Int32)) (v := (.int w_w_o0_values_2)) (by rw [e963]; exact Ar964.1) (State.isArrayOf_alike hZ.alike Ar964.2.1) Ar964.2.2 hin964 (Has.at H964 hin964 rfl) (g := (mkF m 29 #[.val (.ref o0), .val (.long q1), .second, .val (.int (2 : Int32)), .val (.int (3 : Int32)), .val (.int (2 : Int32))] [(.int (2 : Int32)), (.ref w_o0_values)])) rfl rfl (hb hby own_d10_29)) ?_
    show own_End p e below s _ _ _ (T963.setTop (mkF m 30 #[.val (.ref o0), .val (.long q1), .second, .val (.int (2 : Int32)), .val (.int (3 : Int32)), .val (.int (2 : Int32))] [(.int w_w_o0_values_2)]))
    refine own_i2l X963 hx (hb hby own_d10_30) (q := 31) rfl ?_
    refine own_lloadN X963 hx (hb hby own_d10_31) rfl (q := 32) rfl ?_
    by_cases hc33_965 : (w_w_o0_values_2.toInt64) < q1
    · refine own_lcN X963 hx (hb hby own_d10_32) (r := 33) rfl (hb hby own_d10_33) (own_tlt hc33_965).2.1 (q := 36) rfl ?_
      refine own_iload X963 hx (hb hby own_d10_36) rfl (q := 38) rfl ?_
      refine own_iconst X963 hx (hb hby own_d10_38) (z := 1) rfl (q := 39) rfl ?_
      refine own_iadd X963 hx (hb hby own_d10_39) (q := 40) rfl ?_
      show own_End p e below s _ _ _ (T963.setTop (mkF m 40 #[.val (.ref o0), .val (.long q1), .second, .val (.int (2 : Int32)), .val (.int (3 : Int32)), .val (.int (2 : Int32))] [(.int (3 : Int32))]))
      refine own_istoreN X963 hx (hb hby own_d10_40) (l' := #[.val (.ref o0), .val (.long q1), .second, .val (.int (3 : Int32)), .val (.int (3 : Int32)), .val (.int (2 : Int32))]) rfl (q := 41) rfl ?_
      refine own_goto X963 hx (hb hby own_d10_41) (q := 48) (by decide) (by decide) ?_
      refine own_goto X963 hx (hb hby own_d10_48) (q := 9) (by decide) (by decide) ?_
      refine own_iloadN X963 hx (hb hby own_d10_9) rfl (q := 10) rfl ?_
      refine own_iload X963 hx (hb hby own_d10_10) rfl (q := 12) rfl ?_
      refine own_icY X963 hx (hb hby own_d10_12) (flt (by decide : ¬ ((3 : Int32) < (3 : Int32)))).2.1 (q := 51) (by decide) (by decide) ?_
      refine own_iloadN X963 hx (hb hby own_d10_51) rfl (q := 52) rfl ?_
      refine own_retI X963 hx Bd.returns Bd.notSynchronized (by decide) (by decide) (hb hby own_d10_52) ?_
      show own_Q10_3 Z o0 q1 w_o0_values k_w_o0_values w_w_o0_values_0 w_w_o0_values_1 w_w_o0_values_2 h0 n0 _ T963.heap _
      exact ⟨(by simp only [own_F10_3, if_pos hc33_962, if_pos hc33_965]), N0, e963⟩
    · refine own_lcY X963 hx (hb hby own_d10_32) (r := 33) rfl (hb hby own_d10_33) (own_flt hc33_965).2.1 (q := 44) (by decide) (by decide) ?_
      refine own_iload X963 hx (hb hby own_d10_44) rfl (q := 46) rfl ?_
      refine own_istore X963 hx (hb hby own_d10_46) (l' := #[.val (.ref o0), .val (.long q1), .second, .val (.int (2 : Int32)), .val (.int (2 : Int32)), .val (.int (2 : Int32))]) rfl (q := 48) rfl ?_
      refine own_goto X963 hx (hb hby own_d10_48) (q := 9) (by decide) (by decide) ?_
      refine own_iloadN X963 hx (hb hby own_d10_9) rfl (q := 10) rfl ?_
      refine own_iload X963 hx (hb hby own_d10_10) rfl (q := 12) rfl ?_
      refine own_icY X963 hx (hb hby own_d10_12) (flt (by decide : ¬ ((2 : Int32) < (2 : Int32)))).2.1 (q := 51) (by decide) (by decide) ?_
      refine own_iloadN X963 hx (hb hby own_d10_51) rfl (q := 52) rfl ?_
      refine own_retI X963 hx Bd.returns Bd.notSynchronized (by decide) (by decide) (hb hby own_d10_52) ?_
      show own_Q10_3 Z o0 q1 w_o0_values k_w_o0_values w_w_o0_values_0 w_w_o0_values_1 w_w_o0_values_2 h0 n0 _ T963.heap _
      exact ⟨(by simp only [own_F10_3, if_pos hc33_962, if_neg hc33_965]), N0, e963⟩
  · refine own_lcY X960 hx (hb hby own_d10_32) (r := 33) rfl (hb hby own_d10_33) (own_flt hc33_962).2.1 (q := 44) (by decide) (by decide) ?_
    refine own_iload X960 hx (hb hby own_d10_44) rfl (q := 46) rfl ?_
    refine own_istore X960 hx (hb hby own_d10_46) (l' := #[.val (.ref o0), .val (.long q1), .second, .val (.int (0 : Int32)), .val (.int (1 : Int32)), .val (.int (1 : Int32))]) rfl (q := 48) rfl ?_
    refine own_goto X960 hx (hb hby own_d10_48) (q := 9) (by decide) (by decide) ?_
    refine own_iloadN X960 hx (hb hby own_d10_9) rfl (q := 10) rfl ?_
    refine own_iload X960 hx (hb hby own_d10_10) rfl (q := 12) rfl ?_
    refine own_icN X960 hx (hb hby own_d10_12) (tlt (by decide : ((0 : Int32) < (1 : Int32)))).2.1 (q := 15) rfl ?_
    refine own_iloadN X960 hx (hb hby own_d10_15) rfl (q := 16) rfl ?_
    refine own_iload X960 hx (hb hby own_d10_16) rfl (q := 18) rfl ?_
    refine own_iadd X960 hx (hb hby own_d10_18) (q := 19) rfl ?_
    show own_End p e below s _ _ _ (T960.setTop (mkF m 19 #[.val (.ref o0), .val (.long q1), .second, .val (.int (0 : Int32)), .val (.int (1 : Int32)), .val (.int (1 : Int32))] [(.int (1 : Int32))]))
    refine own_iconst X960 hx (hb hby own_d10_19) (z := 1) rfl (q := 20) rfl ?_
    refine own_iushr X960 hx (hb hby own_d10_20) (q := 21) rfl ?_
    show own_End p e below s _ _ _ (T960.setTop (mkF m 21 #[.val (.ref o0), .val (.long q1), .second, .val (.int (0 : Int32)), .val (.int (1 : Int32)), .val (.int (1 : Int32))] [(.int (0 : Int32))]))
    refine own_istore X960 hx (hb hby own_d10_21) (l' := #[.val (.ref o0), .val (.long q1), .second, .val (.int (0 : Int32)), .val (.int (1 : Int32)), .val (.int (0 : Int32))]) rfl (q := 23) rfl ?_
    refine own_aloadN X960 hx (hb hby own_d10_23) rfl rfl (q := 24) rfl ?_
    obtain ⟨T968, X968, e968, st968⟩ := getF X960 hx hZ hown (host := "") (Or.inl (hw _ (List.mem_of_getElem? (i := 79) rfl))) Via.refl e960 F_o0_values (g := (mkF m 24 #[.val (.ref o0), .val (.long q1), .second, .val (.int (0 : Int32)), .val (.int (1 : Int32)), .val (.int (0 : Int32))] [(.ref o0)])) rfl rfl (hb hby own_d10_24)
    refine own_back st968 ?_
    show own_End p e below s _ _ _ (T968.setTop (mkF m 27 #[.val (.ref o0), .val (.long q1), .second, .val (.int (0 : Int32)), .val (.int (1 : Int32)), .val (.int (0 : Int32))] [(.ref w_o0_values)]))
    refine own_iload X968 hx (hb hby own_d10_27) rfl (q := 29) rfl ?_
    obtain ⟨cl969, Ar969, q969, S969, N969v, H969, G969⟩ := id V_w_o0_values
    have hin969 : ¬ ((0 : Int32) < 0 ∨ cl969.slots.size ≤ ((0 : Int32)).toNatClampNeg) := inb_of S969 ⟨by decide, by decide⟩
    refine own_back (X968.iaload hx (j := (0 : Int32)) (v := (.int w_w_o0_values_0)) (by rw [e968]; exact Ar969.1) (State.isArrayOf_alike hZ.alike Ar969.2.1) Ar969.2.2 hin969 (Has.at H969 hin969 rfl) (g := (mkF m 29 #[.val (.ref o0), .val (.long q1), .second, .val (.int (0 : Int32)), .val (.int (1 : Int32)), .val (.int (0 : Int32))] [(.int (0 : Int32)), (.ref w_o0_values)])) rfl rfl (hb hby own_d10_29)) ?_
    show own_End p e below s _ _ _ (T968.setTop (mkF m 30 #[.val (.ref o0), .val (.long q1), .second, .val (.int (0 : Int32)), .val (.int (1 : Int32)), .val (.int (0 : Int32))] [(.int w_w_o0_values_0)]))
    refine own_i2l X968 hx (hb hby own_d10_30) (q := 31) rfl ?_
    refine own_lloadN X968 hx (hb hby own_d10_31) rfl (q := 32) rfl ?_
    by_cases hc33_970 : (w_w_o0_values_0.toInt64) < q1
    · refine own_lcN X968 hx (hb hby own_d10_32) (r := 33) rfl (hb hby own_d10_33) (own_tlt hc33_970).2.1 (q := 36) rfl ?_
      refine own_iload X968 hx (hb hby own_d10_36) rfl (q := 38) rfl ?_
      refine own_iconst X968 hx (hb hby own_d10_38) (z := 1) rfl (q := 39) rfl ?_
      refine own_iadd X968 hx (hb hby own_d10_39) (q := 40) rfl ?_
      show own_End p e below s _ _ _ (T968.setTop (mkF m 40 #[.val (.ref o0), .val (.long q1), .second, .val (.int (0 : Int32)), .val (.int (1 : Int32)), .val (.int (0 : Int32))] [(.int (1 : Int32))]))
      refine own_istoreN X968 hx (hb hby own_d10_40) (l' := #[.val (.ref o0), .val (.long q1), .second, .val (.int (1 : Int32)), .val (.int (1 : Int32)), .val (.int (0 : Int32))]) rfl (q := 41) rfl ?_
      refine own_goto X968 hx (hb hby own_d10_41) (q := 48) (by decide) (by decide) ?_
      refine own_goto X968 hx (hb hby own_d10_48) (q := 9) (by decide) (by decide) ?_
      refine own_iloadN X968 hx (hb hby own_d10_9) rfl (q := 10) rfl ?_
      refine own_iload X968 hx (hb hby own_d10_10) rfl (q := 12) rfl ?_
      refine own_icY X968 hx (hb hby own_d10_12) (flt (by decide : ¬ ((1 : Int32) < (1 : Int32)))).2.1 (q := 51) (by decide) (by decide) ?_
      refine own_iloadN X968 hx (hb hby own_d10_51) rfl (q := 52) rfl ?_
      refine own_retI X968 hx Bd.returns Bd.notSynchronized (by decide) (by decide) (hb hby own_d10_52) ?_
      show own_Q10_3 Z o0 q1 w_o0_values k_w_o0_values w_w_o0_values_0 w_w_o0_values_1 w_w_o0_values_2 h0 n0 _ T968.heap _
      exact ⟨(by simp only [own_F10_3, if_neg hc33_962, if_pos hc33_970]), N0, e968⟩
    · refine own_lcY X968 hx (hb hby own_d10_32) (r := 33) rfl (hb hby own_d10_33) (own_flt hc33_970).2.1 (q := 44) (by decide) (by decide) ?_
      refine own_iload X968 hx (hb hby own_d10_44) rfl (q := 46) rfl ?_
      refine own_istore X968 hx (hb hby own_d10_46) (l' := #[.val (.ref o0), .val (.long q1), .second, .val (.int (0 : Int32)), .val (.int (0 : Int32)), .val (.int (0 : Int32))]) rfl (q := 48) rfl ?_
      refine own_goto X968 hx (hb hby own_d10_48) (q := 9) (by decide) (by decide) ?_
      refine own_iloadN X968 hx (hb hby own_d10_9) rfl (q := 10) rfl ?_
      refine own_iload X968 hx (hb hby own_d10_10) rfl (q := 12) rfl ?_
      refine own_icY X968 hx (hb hby own_d10_12) (flt (by decide : ¬ ((0 : Int32) < (0 : Int32)))).2.1 (q := 51) (by decide) (by decide) ?_
      refine own_iloadN X968 hx (hb hby own_d10_51) rfl (q := 52) rfl ?_
      refine own_retI X968 hx Bd.returns Bd.notSynchronized (by decide) (by decide) (hb hby own_d10_52) ?_
      show own_Q10_3 Z o0 q1 w_o0_values k_w_o0_values w_w_o0_values_0 w_w_o0_values_1 w_w_o0_values_2 h0 n0 _ T968.heap _
      exact ⟨(by simp only [own_F10_3, if_neg hc33_962, if_neg hc33_970]), N0, e968⟩
theorem own_and3 (x : Int32) (h0 : ¬ (x &&& 3) = 0) (h1 : ¬ (x &&& 3) = 1) (h2 : ¬ (x &&& 3) = 2) : (x &&& 3) = 3 := by
  have e : (x &&& 3).toInt = x.toInt % 2 ^ 2 := Jvm.Kit.i32_mask x 3 (k := 2) (by decide) (by decide)
  have n0 : (x &&& 3).toInt ≠ 0 := fun q => h0 (Int32.toInt_inj.mp (by rw [q]; decide))
  have n1 : (x &&& 3).toInt ≠ 1 := fun q => h1 (Int32.toInt_inj.mp (by rw [q]; decide))
  have n2 : (x &&& 3).toInt ≠ 2 := fun q => h2 (Int32.toInt_inj.mp (by rw [q]; decide))
  apply Int32.toInt_inj.mp
  have : (3 : Int32).toInt = 3 := by decide
  omega
theorem own_mn (a b : Int32) : (own_F1 a b).toInt = min a.toInt b.toInt := by
  rw [own_F1]; split
  · rename_i h; rw [Int32.lt_iff_toInt_lt] at h; omega
  · rename_i h; rw [Int32.lt_iff_toInt_lt] at h; omega
theorem own_mx (a b : Int32) : (own_F2 a b).toInt = max a.toInt b.toInt := by
  rw [own_F2]; split
  · rename_i h; rw [Int32.lt_iff_toInt_lt] at h; omega
  · rename_i h; rw [Int32.lt_iff_toInt_lt] at h; omega
theorem own_lt (a b : Int32) (q : Int64) (h : a.toInt ≤ b.toInt) (hb : b.toInt64 < q) : a.toInt64 < q := by
  rw [Int64.lt_iff_toInt_lt, Int32.toInt_toInt64] at *; omega
theorem own_lohi (a b c : Int32) : (own_F1 a (own_F1 b c)).toInt ≤ (own_F2 a (own_F2 b c)).toInt := by
  simp only [own_mn, own_mx]; omega
theorem own_lomid (a b c : Int32) : (own_F1 a (own_F1 b c)).toInt ≤ (own_F2 (own_F1 a b) (own_F1 (own_F2 a b) c)).toInt := by
  simp only [own_mn, own_mx]; omega
theorem own_midhi (a b c : Int32) : (own_F2 (own_F1 a b) (own_F1 (own_F2 a b) c)).toInt ≤ (own_F2 a (own_F2 b c)).toInt := by
  simp only [own_mn, own_mx]; omega
theorem own_bs2 (q : Int64) (a b : Int32) (h : a.toInt ≤ b.toInt) : own_F10_2 q a b = if b.toInt64 < q then (if a.toInt64 < q then (1 : Int32) else 0) + 1 else (if a.toInt64 < q then (1 : Int32) else 0) := by
  rw [own_F10_2]
  by_cases hb : b.toInt64 < q
  · rw [if_pos hb, if_pos hb, if_pos (own_lt a b q h hb)]; rfl
  · rw [if_neg hb, if_neg hb]
theorem own_bs3 (q : Int64) (a b c : Int32) (h : a.toInt ≤ b.toInt) (h' : b.toInt ≤ c.toInt) : own_F10_3 q a b c = if c.toInt64 < q then (if b.toInt64 < q then (if a.toInt64 < q then (1 : Int32) else 0) + 1 else (if a.toInt64 < q then (1 : Int32) else 0)) + 1 else (if b.toInt64 < q then (if a.toInt64 < q then (1 : Int32) else 0) + 1 else (if a.toInt64 < q then (1 : Int32) else 0)) := by
  rw [own_F10_3]
  by_cases hc : c.toInt64 < q
  · have hb := own_lt b c q h' hc
    rw [if_pos hb, if_pos hc, if_pos hc, if_pos hb, if_pos (own_lt a b q h hb)]; rfl
  · by_cases hb : b.toInt64 < q
    · rw [if_pos hb, if_neg hc, if_neg hc, if_pos hb, if_pos (own_lt a b q h hb)]; rfl
    · rw [if_neg hb, if_neg hc, if_neg hb]
theorem own_pd2 : parseMethodDescriptor "(II)I" = some ⟨[.int, .int], some .int⟩ := by decide +kernel
def own_M0_155 (p1 : Int32) (p2 : Int32) (p3 : Int32) (p5 : Int32) : Int32 := (if ((p5 &&& (15 : Int32)) / (3 : Int32)) = (1 : Int32) then (own_F2 (own_F1 p1 p2) (own_F1 (own_F2 p1 p2) p3)) else (own_F2 p1 (own_F2 p2 p3)))
def own_M0_144 (p1 : Int32) (p2 : Int32) (p3 : Int32) (p5 : Int32) : Int32 := (if ((p5 &&& (15 : Int32)) / (3 : Int32)) = (0 : Int32) then (own_F1 p1 (own_F1 p2 p3)) else (own_M0_155 p1 p2 p3 p5))
def own_M0_133 (p1 : Int32) (p2 : Int32) (p3 : Int32) (q4 : Int64) (p5 : Int32) : Int64 := (if (p5 &&& (15 : Int32)) < (9 : Int32) then ((((own_M0_144 p1 p2 p3 p5).toInt64) + (((p5 &&& (15 : Int32)) % (3 : Int32)).toInt64)) - (1 : Int64)) else q4)
theorem own_pd3 : parseMethodDescriptor "(ILjava/lang/String;[ILcom/example/arcwise/arcwise/network/Trail;Ljava/util/List;)V" = some ⟨[.int, (.object "java/lang/String"), (.array .int), (.object "com/example/arcwise/arcwise/network/Trail"), (.object "java/util/List")], none⟩ := by decide +kernel
theorem own_pd4 : parseMethodDescriptor "(J)I" = some ⟨[.long], some .int⟩ := by decide +kernel
def own_M0_240 (p1 : Int32) (p2 : Int32) (p3 : Int32) (q4 : Int64) (p5 : Int32) : Int32 := (if ((own_F1 p1 (own_F1 p2 p3)).toInt64) < (own_M0_133 p1 p2 p3 q4 p5) then (1 : Int32) else (0 : Int32))
def own_M0_260 (p1 : Int32) (p2 : Int32) (p3 : Int32) (q4 : Int64) (p5 : Int32) : Int32 := (if ((own_F2 p1 (own_F2 p2 p3)).toInt64) < (own_M0_133 p1 p2 p3 q4 p5) then ((own_M0_240 p1 p2 p3 q4 p5) + (1 : Int32)) else (own_M0_240 p1 p2 p3 q4 p5))
def own_M0_260_b (p1 : Int32) (p2 : Int32) (p3 : Int32) (q4 : Int64) (p5 : Int32) : Int32 := (if ((own_F2 (own_F1 p1 p2) (own_F1 (own_F2 p1 p2) p3)).toInt64) < (own_M0_133 p1 p2 p3 q4 p5) then ((own_M0_240 p1 p2 p3 q4 p5) + (1 : Int32)) else (own_M0_240 p1 p2 p3 q4 p5))
def own_M0_280 (p1 : Int32) (p2 : Int32) (p3 : Int32) (q4 : Int64) (p5 : Int32) : Int32 := (if ((own_F2 p1 (own_F2 p2 p3)).toInt64) < (own_M0_133 p1 p2 p3 q4 p5) then ((own_M0_260_b p1 p2 p3 q4 p5) + (1 : Int32)) else (own_M0_260_b p1 p2 p3 q4 p5))
def own_Q0 (Z : State) (p0 : Int32) (p1 : Int32) (p2 : Int32) (p3 : Int32) (q4 : Int64) (p5 : Int32) (sa : Addr) (h0 : Heap) (n0 : Nat) (v : Option Value) (h : Heap) (L : List Loc) : Prop := v = some (.int (1 : Int32)) ∧ Fr n0 L
theorem own_pn_rm0 : plainName "com/example/arcwise/arcwise/network/VariableIndexAtLeastPinLaw" = true := by first | (simp [plainName, overriddenIn]; done) | decide +kernel
theorem own_ef_rm0 (m : MethodId) (p0 : Int32) (p1 : Int32) (p2 : Int32) (p3 : Int32) (q4 : Int64) (p5 : Int32) : entryFrame m #[(.int p0), (.int p1), (.int p2), (.int p3), (.long q4), (.int p5)] maxLocals = mkF m 0 #[.val (.int p0), .val (.int p1), .val (.int p2), .val (.int p3), .val (.long q4), .second, .val (.int p5), .unset, .unset, .unset, .unset, .unset, .unset, .unset, .unset, .unset, .unset, .unset] [] := by first | (simp [entryFrame, mkF, argsToLocals, Value.category, maxLocals]; done) | rfl
set_option maxRecDepth 65536 in
set_option maxHeartbeats 40000000 in
theorem own_rm0 (l : Launch) (Z : State) (a0 : Array Value) (hw : ∀ d ∈ tables_1, d.before a0 Z = true) (ws : List Jvm.Cond) (p0 : Int32) (p1 : Int32) (p2 : Int32) (p3 : Int32) (q4 : Int64) (p5 : Int32) (sa : Addr) (h0 : Heap) (n0 : Nat) (Z0 : n0 ≤ h0.size) (S_dc : Sta Z h0 "java/util/ArrayList" "DEFAULTCAPACITY_EMPTY_ELEMENTDATA" "[Ljava/lang/Object;" (.ref sa)) :
    MetFree l x (head1 (Jvm.Cond.code x code maxLocals ret :: ws) room_1) (fun a U => a = #[(.int p0), (.int p1), (.int p2), (.int p3), (.long q4), (.int p5)] ∧ Z.Warmed39 U.vm ∧ U.heap = h0) (fun _ _ _ _ _ => True) (fun _ U o U' => ∃ v L, o = .returned v ∧ own_Q0 Z p0 p1 p2 p3 q4 p5 sa h0 n0 v U'.heap L ∧ ReturnedEndW U o U' L room_1.cells room_1.slots) := by
  refine MetFree.of_bodySF (plainFor_of_name own_pn_rm0) hisR ?_
  intro p e s m args below meth c s₁ Bd hml0 hP hK
  obtain ⟨rfl, hZ, hh⟩ := hP
  have hx := Bd.exec
  have hby := Bd.bytes
  have hml : c.maxLocals = 18 := hml0
  have hown : s.vm.findClass "com/example/arcwise/arcwise/network/VariableIndexAtLeastPinLaw" = some m.cls := findClass_of_methodNamed Bd.named
  have hnm := (name_of_methodNamed Bd.named Bd.method).1
  have X0 : Stand p l e room_1 s m #[(.int p0), (.int p1), (.int p2), (.int p3), (.long q4), (.int p5)] below meth c s₁ [] 0 0 := Stand.of_body Bd
  have e0 : s₁.heap = h0 := by rw [← hh, Bd.state]; rfl
  have N0 := Fr.nil n0
  show own_End p e below s (own_Q0 Z p0 p1 p2 p3 q4 p5 sa h0 n0) room_1.cells room_1.slots (s₁.setTop (entryFrame m #[(.int p0), (.int p1), (.int p2), (.int p3), (.long q4), (.int p5)] maxLocals)) ReturnedEndW
  rw [own_ef_rm0]
  refine own_iloadN X0 hx (hb hby at_0) rfl (q := 1) rfl ?_
  refine own_iloadN X0 hx (hb hby at_1) rfl (q := 2) rfl ?_
  refine own_iloadN X0 hx (hb hby at_2) rfl (q := 3) rfl ?_
  obtain ⟨T973, Lc973, L973, X973, N973, hQ973, st973⟩ := own_shutS (val := some (.int (own_F1 p2 p3))) (Q := own_Q1 Z p2 p3 h0 n0) (rc := 0) (rs := 0) N0 (fun _ _ _ q => ⟨q.1, q.2.1⟩) (Jvm.LawKit.callS X0 hx (y := (⟨"java/lang/Math", "min", "(II)I"⟩ : MethodName)) hown (mvT hZ (hw _ (List.mem_of_getElem? (i := 0) rfl))) (mvT hZ (hw _ (List.mem_of_getElem? (i := 1) rfl))) (mvT hZ (hw _ (List.mem_of_getElem? (i := 2) rfl))) (mvT hZ (hw _ (List.mem_of_getElem? (i := 3) rfl))) (by decide) (backOf (W := 1) (own_rm1 l Z a0 hw [] p2 p3 h0 n0 Z0 ) hZ (hw _ (List.mem_of_getElem? (i := 3) rfl)) (hw _ (List.mem_of_getElem? (i := 2) rfl)) (by decide) (by decide)) (g := (mkF m 3 #[.val (.int p0), .val (.int p1), .val (.int p2), .val (.int p3), .val (.long q4), .second, .val (.int p5), .unset, .unset, .unset, .unset, .unset, .unset, .unset, .unset, .unset, .unset, .unset] [(.int p3), (.int p2), (.int p1)])) rfl (by rw [hml]; rfl) (argsL := [(.int p2), (.int p3)]) (rest := [(.int p1)]) (lenOf own_pd2 rfl) rfl (by show 2 * 0 + _ ≤ _; exact Nat.le_of_eq rfl) (hb hby at_3) (fun _ _ => ⟨rfl, e0, (by decide : 0 + 0 ≤ _), (by decide : 0 + 0 ≤ _)⟩))
  obtain ⟨-, -, e973⟩ := hQ973
  refine own_back st973 ?_
  show own_End p e below s _ _ _ (T973.setTop (mkF m 6 #[.val (.int p0), .val (.int p1), .val (.int p2), .val (.int p3), .val (.long q4), .second, .val (.int p5), .unset, .unset, .unset, .unset, .unset, .unset, .unset, .unset, .unset, .unset, .unset] [(.int (own_F1 p2 p3)), (.int p1)])) ReturnedEndW
  obtain ⟨T974, Lc974, L974, X974, N974, hQ974, st974⟩ := own_shutS (val := some (.int (own_F1 p1 (own_F1 p2 p3)))) (Q := own_Q1 Z p1 (own_F1 p2 p3) h0 n0) (rc := 0) (rs := 0) N973 (fun _ _ _ q => ⟨q.1, q.2.1⟩) (Jvm.LawKit.callS X973 hx (y := (⟨"java/lang/Math", "min", "(II)I"⟩ : MethodName)) hown (mvT hZ (hw _ (List.mem_of_getElem? (i := 0) rfl))) (mvT hZ (hw _ (List.mem_of_getElem? (i := 1) rfl))) (mvT hZ (hw _ (List.mem_of_getElem? (i := 2) rfl))) (mvT hZ (hw _ (List.mem_of_getElem? (i := 3) rfl))) (by decide) (backOf (W := 0) (own_rm1 l Z a0 hw [] p1 (own_F1 p2 p3) h0 n0 Z0 ) hZ (hw _ (List.mem_of_getElem? (i := 3) rfl)) (hw _ (List.mem_of_getElem? (i := 2) rfl)) (by decide) (by decide)) (g := (mkF m 6 #[.val (.int p0), .val (.int p1), .val (.int p2), .val (.int p3), .val (.long q4), .second, .val (.int p5), .unset, .unset, .unset, .unset, .unset, .unset, .unset, .unset, .unset, .unset, .unset] [(.int (own_F1 p2 p3)), (.int p1)])) rfl (by rw [hml]; rfl) (argsL := [(.int p1), (.int (own_F1 p2 p3))]) (rest := []) (lenOf own_pd2 rfl) rfl (by show 2 * 0 + _ ≤ _; exact Nat.le_of_eq rfl) (hb hby at_6) (fun _ _ => ⟨rfl, e973, (by decide : 0 + 0 ≤ _), (by decide : 0 + 0 ≤ _)⟩))
  obtain ⟨-, -, e974⟩ := hQ974
  refine own_back st974 ?_
  show own_End p e below s _ _ _ (T974.setTop (mkF m 9 #[.val (.int p0), .val (.int p1), .val (.int p2), .val (.int p3), .val (.long q4), .second, .val (.int p5), .unset, .unset, .unset, .unset, .unset, .unset, .unset, .unset, .unset, .unset, .unset] [(.int (own_F1 p1 (own_F1 p2 p3)))])) ReturnedEndW
  refine own_istore X974 hx (hb hby at_9) (l' := #[.val (.int p0), .val (.int p1), .val (.int p2), .val (.int p3), .val (.long q4), .second, .val (.int p5), .val (.int (own_F1 p1 (own_F1 p2 p3))), .unset, .unset, .unset, .unset, .unset, .unset, .unset, .unset, .unset, .unset]) rfl (q := 11) rfl ?_
  refine own_iloadN X974 hx (hb hby at_11) rfl (q := 12) rfl ?_
  refine own_iloadN X974 hx (hb hby at_12) rfl (q := 13) rfl ?_
  refine own_iloadN X974 hx (hb hby at_13) rfl (q := 14) rfl ?_
  obtain ⟨T975, Lc975, L975, X975, N975, hQ975, st975⟩ := own_shutS (val := some (.int (own_F2 p2 p3))) (Q := own_Q2 Z p2 p3 h0 n0) (rc := 0) (rs := 0) N974 (fun _ _ _ q => ⟨q.1, q.2.1⟩) (Jvm.LawKit.callS X974 hx (y := (⟨"java/lang/Math", "max", "(II)I"⟩ : MethodName)) hown (mvT hZ (hw _ (List.mem_of_getElem? (i := 4) rfl))) (mvT hZ (hw _ (List.mem_of_getElem? (i := 5) rfl))) (mvT hZ (hw _ (List.mem_of_getElem? (i := 2) rfl))) (mvT hZ (hw _ (List.mem_of_getElem? (i := 6) rfl))) (by decide) (backOf (W := 1) (own_rm2 l Z a0 hw [] p2 p3 h0 n0 Z0 ) hZ (hw _ (List.mem_of_getElem? (i := 6) rfl)) (hw _ (List.mem_of_getElem? (i := 2) rfl)) (by decide) (by decide)) (g := (mkF m 14 #[.val (.int p0), .val (.int p1), .val (.int p2), .val (.int p3), .val (.long q4), .second, .val (.int p5), .val (.int (own_F1 p1 (own_F1 p2 p3))), .unset, .unset, .unset, .unset, .unset, .unset, .unset, .unset, .unset, .unset] [(.int p3), (.int p2), (.int p1)])) rfl (by rw [hml]; rfl) (argsL := [(.int p2), (.int p3)]) (rest := [(.int p1)]) (lenOf own_pd2 rfl) rfl (by show 2 * 0 + _ ≤ _; exact Nat.le_of_eq rfl) (hb hby at_14) (fun _ _ => ⟨rfl, e974, (by decide : 0 + 0 ≤ _), (by decide : 0 + 0 ≤ _)⟩))
  obtain ⟨-, -, e975⟩ := hQ975
  refine own_back st975 ?_
  show own_End p e below s _ _ _ (T975.setTop (mkF m 17 #[.val (.int p0), .val (.int p1), .val (.int p2), .val (.int p3), .val (.long q4), .second, .val (.int p5), .val (.int (own_F1 p1 (own_F1 p2 p3))), .unset, .unset, .unset, .unset, .unset, .unset, .unset, .unset, .unset, .unset] [(.int (own_F2 p2 p3)), (.int p1)])) ReturnedEndW
  obtain ⟨T976, Lc976, L976, X976, N976, hQ976, st976⟩ := own_shutS (val := some (.int (own_F2 p1 (own_F2 p2 p3)))) (Q := own_Q2 Z p1 (own_F2 p2 p3) h0 n0) (rc := 0) (rs := 0) N975 (fun _ _ _ q => ⟨q.1, q.2.1⟩) (Jvm.LawKit.callS X975 hx (y := (⟨"java/lang/Math", "max", "(II)I"⟩ : MethodName)) hown (mvT hZ (hw _ (List.mem_of_getElem? (i := 4) rfl))) (mvT hZ (hw _ (List.mem_of_getElem? (i := 5) rfl))) (mvT hZ (hw _ (List.mem_of_getElem? (i := 2) rfl))) (mvT hZ (hw _ (List.mem_of_getElem? (i := 6) rfl))) (by decide) (backOf (W := 0) (own_rm2 l Z a0 hw [] p1 (own_F2 p2 p3) h0 n0 Z0 ) hZ (hw _ (List.mem_of_getElem? (i := 6) rfl)) (hw _ (List.mem_of_getElem? (i := 2) rfl)) (by decide) (by decide)) (g := (mkF m 17 #[.val (.int p0), .val (.int p1), .val (.int p2), .val (.int p3), .val (.long q4), .second, .val (.int p5), .val (.int (own_F1 p1 (own_F1 p2 p3))), .unset, .unset, .unset, .unset, .unset, .unset, .unset, .unset, .unset, .unset] [(.int (own_F2 p2 p3)), (.int p1)])) rfl (by rw [hml]; rfl) (argsL := [(.int p1), (.int (own_F2 p2 p3))]) (rest := []) (lenOf own_pd2 rfl) rfl (by show 2 * 0 + _ ≤ _; exact Nat.le_of_eq rfl) (hb hby at_17) (fun _ _ => ⟨rfl, e975, (by decide : 0 + 0 ≤ _), (by decide : 0 + 0 ≤ _)⟩))
  obtain ⟨-, -, e976⟩ := hQ976
  refine own_back st976 ?_
  show own_End p e below s _ _ _ (T976.setTop (mkF m 20 #[.val (.int p0), .val (.int p1), .val (.int p2), .val (.int p3), .val (.long q4), .second, .val (.int p5), .val (.int (own_F1 p1 (own_F1 p2 p3))), .unset, .unset, .unset, .unset, .unset, .unset, .unset, .unset, .unset, .unset] [(.int (own_F2 p1 (own_F2 p2 p3)))])) ReturnedEndW
  refine own_istore X976 hx (hb hby at_20) (l' := #[.val (.int p0), .val (.int p1), .val (.int p2), .val (.int p3), .val (.long q4), .second, .val (.int p5), .val (.int (own_F1 p1 (own_F1 p2 p3))), .val (.int (own_F2 p1 (own_F2 p2 p3))), .unset, .unset, .unset, .unset, .unset, .unset, .unset, .unset, .unset]) rfl (q := 22) rfl ?_
  refine own_iloadN X976 hx (hb hby at_22) rfl (q := 23) rfl ?_
  refine own_iloadN X976 hx (hb hby at_23) rfl (q := 24) rfl ?_
  obtain ⟨T977, Lc977, L977, X977, N977, hQ977, st977⟩ := own_shutS (val := some (.int (own_F1 p1 p2))) (Q := own_Q1 Z p1 p2 h0 n0) (rc := 0) (rs := 0) N976 (fun _ _ _ q => ⟨q.1, q.2.1⟩) (Jvm.LawKit.callS X976 hx (y := (⟨"java/lang/Math", "min", "(II)I"⟩ : MethodName)) hown (mvT hZ (hw _ (List.mem_of_getElem? (i := 0) rfl))) (mvT hZ (hw _ (List.mem_of_getElem? (i := 1) rfl))) (mvT hZ (hw _ (List.mem_of_getElem? (i := 2) rfl))) (mvT hZ (hw _ (List.mem_of_getElem? (i := 3) rfl))) (by decide) (backOf (W := 0) (own_rm1 l Z a0 hw [] p1 p2 h0 n0 Z0 ) hZ (hw _ (List.mem_of_getElem? (i := 3) rfl)) (hw _ (List.mem_of_getElem? (i := 2) rfl)) (by decide) (by decide)) (g := (mkF m 24 #[.val (.int p0), .val (.int p1), .val (.int p2), .val (.int p3), .val (.long q4), .second, .val (.int p5), .val (.int (own_F1 p1 (own_F1 p2 p3))), .val (.int (own_F2 p1 (own_F2 p2 p3))), .unset, .unset, .unset, .unset, .unset, .unset, .unset, .unset, .unset] [(.int p2), (.int p1)])) rfl (by rw [hml]; rfl) (argsL := [(.int p1), (.int p2)]) (rest := []) (lenOf own_pd2 rfl) rfl (by show 2 * 0 + _ ≤ _; exact Nat.le_of_eq rfl) (hb hby at_24) (fun _ _ => ⟨rfl, e976, (by decide : 0 + 0 ≤ _), (by decide : 0 + 0 ≤ _)⟩))
  obtain ⟨-, -, e977⟩ := hQ977
  refine own_back st977 ?_
  show own_End p e below s _ _ _ (T977.setTop (mkF m 27 #[.val (.int p0), .val (.int p1), .val (.int p2), .val (.int p3), .val (.long q4), .second, .val (.int p5), .val (.int (own_F1 p1 (own_F1 p2 p3))), .val (.int (own_F2 p1 (own_F2 p2 p3))), .unset, .unset, .unset, .unset, .unset, .unset, .unset, .unset, .unset] [(.int (own_F1 p1 p2))])) ReturnedEndW
  refine own_iloadN X977 hx (hb hby at_27) rfl (q := 28) rfl ?_
  refine own_iloadN X977 hx (hb hby at_28) rfl (q := 29) rfl ?_
  obtain ⟨T978, Lc978, L978, X978, N978, hQ978, st978⟩ := own_shutS (val := some (.int (own_F2 p1 p2))) (Q := own_Q2 Z p1 p2 h0 n0) (rc := 0) (rs := 0) N977 (fun _ _ _ q => ⟨q.1, q.2.1⟩) (Jvm.LawKit.callS X977 hx (y := (⟨"java/lang/Math", "max", "(II)I"⟩ : MethodName)) hown (mvT hZ (hw _ (List.mem_of_getElem? (i := 4) rfl))) (mvT hZ (hw _ (List.mem_of_getElem? (i := 5) rfl))) (mvT hZ (hw _ (List.mem_of_getElem? (i := 2) rfl))) (mvT hZ (hw _ (List.mem_of_getElem? (i := 6) rfl))) (by decide) (backOf (W := 1) (own_rm2 l Z a0 hw [] p1 p2 h0 n0 Z0 ) hZ (hw _ (List.mem_of_getElem? (i := 6) rfl)) (hw _ (List.mem_of_getElem? (i := 2) rfl)) (by decide) (by decide)) (g := (mkF m 29 #[.val (.int p0), .val (.int p1), .val (.int p2), .val (.int p3), .val (.long q4), .second, .val (.int p5), .val (.int (own_F1 p1 (own_F1 p2 p3))), .val (.int (own_F2 p1 (own_F2 p2 p3))), .unset, .unset, .unset, .unset, .unset, .unset, .unset, .unset, .unset] [(.int p2), (.int p1), (.int (own_F1 p1 p2))])) rfl (by rw [hml]; rfl) (argsL := [(.int p1), (.int p2)]) (rest := [(.int (own_F1 p1 p2))]) (lenOf own_pd2 rfl) rfl (by show 2 * 0 + _ ≤ _; exact Nat.le_of_eq rfl) (hb hby at_29) (fun _ _ => ⟨rfl, e977, (by decide : 0 + 0 ≤ _), (by decide : 0 + 0 ≤ _)⟩))
  obtain ⟨-, -, e978⟩ := hQ978
  refine own_back st978 ?_
  show own_End p e below s _ _ _ (T978.setTop (mkF m 32 #[.val (.int p0), .val (.int p1), .val (.int p2), .val (.int p3), .val (.long q4), .second, .val (.int p5), .val (.int (own_F1 p1 (own_F1 p2 p3))), .val (.int (own_F2 p1 (own_F2 p2 p3))), .unset, .unset, .unset, .unset, .unset, .unset, .unset, .unset, .unset] [(.int (own_F2 p1 p2)), (.int (own_F1 p1 p2))])) ReturnedEndW
  refine own_iloadN X978 hx (hb hby at_32) rfl (q := 33) rfl ?_
  obtain ⟨T979, Lc979, L979, X979, N979, hQ979, st979⟩ := own_shutS (val := some (.int (own_F1 (own_F2 p1 p2) p3))) (Q := own_Q1 Z (own_F2 p1 p2) p3 h0 n0) (rc := 0) (rs := 0) N978 (fun _ _ _ q => ⟨q.1, q.2.1⟩) (Jvm.LawKit.callS X978 hx (y := (⟨"java/lang/Math", "min", "(II)I"⟩ : MethodName)) hown (mvT hZ (hw _ (List.mem_of_getElem? (i := 0) rfl))) (mvT hZ (hw _ (List.mem_of_getElem? (i := 1) rfl))) (mvT hZ (hw _ (List.mem_of_getElem? (i := 2) rfl))) (mvT hZ (hw _ (List.mem_of_getElem? (i := 3) rfl))) (by decide) (backOf (W := 1) (own_rm1 l Z a0 hw [] (own_F2 p1 p2) p3 h0 n0 Z0 ) hZ (hw _ (List.mem_of_getElem? (i := 3) rfl)) (hw _ (List.mem_of_getElem? (i := 2) rfl)) (by decide) (by decide)) (g := (mkF m 33 #[.val (.int p0), .val (.int p1), .val (.int p2), .val (.int p3), .val (.long q4), .second, .val (.int p5), .val (.int (own_F1 p1 (own_F1 p2 p3))), .val (.int (own_F2 p1 (own_F2 p2 p3))), .unset, .unset, .unset, .unset, .unset, .unset, .unset, .unset, .unset] [(.int p3), (.int (own_F2 p1 p2)), (.int (own_F1 p1 p2))])) rfl (by rw [hml]; rfl) (argsL := [(.int (own_F2 p1 p2)), (.int p3)]) (rest := [(.int (own_F1 p1 p2))]) (lenOf own_pd2 rfl) rfl (by show 2 * 0 + _ ≤ _; exact Nat.le_of_eq rfl) (hb hby at_33) (fun _ _ => ⟨rfl, e978, (by decide : 0 + 0 ≤ _), (by decide : 0 + 0 ≤ _)⟩))
  obtain ⟨-, -, e979⟩ := hQ979
  refine own_back st979 ?_
  show own_End p e below s _ _ _ (T979.setTop (mkF m 36 #[.val (.int p0), .val (.int p1), .val (.int p2), .val (.int p3), .val (.long q4), .second, .val (.int p5), .val (.int (own_F1 p1 (own_F1 p2 p3))), .val (.int (own_F2 p1 (own_F2 p2 p3))), .unset, .unset, .unset, .unset, .unset, .unset, .unset, .unset, .unset] [(.int (own_F1 (own_F2 p1 p2) p3)), (.int (own_F1 p1 p2))])) ReturnedEndW
  obtain ⟨T980, Lc980, L980, X980, N980, hQ980, st980⟩ := own_shutS (val := some (.int (own_F2 (own_F1 p1 p2) (own_F1 (own_F2 p1 p2) p3)))) (Q := own_Q2 Z (own_F1 p1 p2) (own_F1 (own_F2 p1 p2) p3) h0 n0) (rc := 0) (rs := 0) N979 (fun _ _ _ q => ⟨q.1, q.2.1⟩) (Jvm.LawKit.callS X979 hx (y := (⟨"java/lang/Math", "max", "(II)I"⟩ : MethodName)) hown (mvT hZ (hw _ (List.mem_of_getElem? (i := 4) rfl))) (mvT hZ (hw _ (List.mem_of_getElem? (i := 5) rfl))) (mvT hZ (hw _ (List.mem_of_getElem? (i := 2) rfl))) (mvT hZ (hw _ (List.mem_of_getElem? (i := 6) rfl))) (by decide) (backOf (W := 0) (own_rm2 l Z a0 hw [] (own_F1 p1 p2) (own_F1 (own_F2 p1 p2) p3) h0 n0 Z0 ) hZ (hw _ (List.mem_of_getElem? (i := 6) rfl)) (hw _ (List.mem_of_getElem? (i := 2) rfl)) (by decide) (by decide)) (g := (mkF m 36 #[.val (.int p0), .val (.int p1), .val (.int p2), .val (.int p3), .val (.long q4), .second, .val (.int p5), .val (.int (own_F1 p1 (own_F1 p2 p3))), .val (.int (own_F2 p1 (own_F2 p2 p3))), .unset, .unset, .unset, .unset, .unset, .unset, .unset, .unset, .unset] [(.int (own_F1 (own_F2 p1 p2) p3)), (.int (own_F1 p1 p2))])) rfl (by rw [hml]; rfl) (argsL := [(.int (own_F1 p1 p2)), (.int (own_F1 (own_F2 p1 p2) p3))]) (rest := []) (lenOf own_pd2 rfl) rfl (by show 2 * 0 + _ ≤ _; exact Nat.le_of_eq rfl) (hb hby at_36) (fun _ _ => ⟨rfl, e979, (by decide : 0 + 0 ≤ _), (by decide : 0 + 0 ≤ _)⟩))
  obtain ⟨-, -, e980⟩ := hQ980
  refine own_back st980 ?_
  show own_End p e below s _ _ _ (T980.setTop (mkF m 39 #[.val (.int p0), .val (.int p1), .val (.int p2), .val (.int p3), .val (.long q4), .second, .val (.int p5), .val (.int (own_F1 p1 (own_F1 p2 p3))), .val (.int (own_F2 p1 (own_F2 p2 p3))), .unset, .unset, .unset, .unset, .unset, .unset, .unset, .unset, .unset] [(.int (own_F2 (own_F1 p1 p2) (own_F1 (own_F2 p1 p2) p3)))])) ReturnedEndW
  refine own_istore X980 hx (hb hby at_39) (l' := #[.val (.int p0), .val (.int p1), .val (.int p2), .val (.int p3), .val (.long q4), .second, .val (.int p5), .val (.int (own_F1 p1 (own_F1 p2 p3))), .val (.int (own_F2 p1 (own_F2 p2 p3))), .val (.int (own_F2 (own_F1 p1 p2) (own_F1 (own_F2 p1 p2) p3))), .unset, .unset, .unset, .unset, .unset, .unset, .unset, .unset]) rfl (q := 41) rfl ?_
  refine own_iloadN X980 hx (hb hby at_41) rfl (q := 42) rfl ?_
  refine own_iconst X980 hx (hb hby at_42) (z := 3) rfl (q := 43) rfl ?_
  refine own_iand X980 hx (hb hby at_43) (q := 44) rfl ?_
  by_cases hz981 : (p0 &&& (3 : Int32)) = (0 : Int32)
  · rw [hz981]
    refine own_istore X980 hx (hb hby at_44) (l' := #[.val (.int p0), .val (.int p1), .val (.int p2), .val (.int p3), .val (.long q4), .second, .val (.int p5), .val (.int (own_F1 p1 (own_F1 p2 p3))), .val (.int (own_F2 p1 (own_F2 p2 p3))), .val (.int (own_F2 (own_F1 p1 p2) (own_F1 (own_F2 p1 p2) p3))), .val (.int (0 : Int32)), .unset, .unset, .unset, .unset, .unset, .unset, .unset]) rfl (q := 46) rfl ?_
    refine own_iload X980 hx (hb hby at_46) rfl (q := 48) rfl ?_
    refine own_ifN X980 hx (hb hby at_48) (teq (by decide : ((0 : Int32) = (0 : Int32)))).2 (q := 51) rfl ?_
    refine own_iconst X980 hx (hb hby at_51) (z := 0) rfl (q := 52) rfl ?_
    obtain ⟨T982, h982, k982, X982, e982, E982, A982, Ex982, st982⟩ := newPE X980 hx hZ (hw _ (List.mem_of_getElem? (i := 7) rfl)) e980 (g := (mkF m 52 #[.val (.int p0), .val (.int p1), .val (.int p2), .val (.int p3), .val (.long q4), .second, .val (.int p5), .val (.int (own_F1 p1 (own_F1 p2 p3))), .val (.int (own_F2 p1 (own_F2 p2 p3))), .val (.int (own_F2 (own_F1 p1 p2) (own_F1 (own_F2 p1 p2) p3))), .val (.int (0 : Int32)), .unset, .unset, .unset, .unset, .unset, .unset, .unset] [(.int (0 : Int32))])) rfl (hb hby at_52) rfl (by decide) (cap := 0) (by decide) (by decide) (by decide) (by decide) (ad := "[I") rfl
    obtain ⟨b982, g982⟩ : ∃ z, z = h0.size := ⟨_, rfl⟩
    have g_b982 : n0 ≤ b982 := Nat.le_trans Z0 (Nat.le_of_eq g982.symm)
    have Z983 := Nat.le_trans Z0 E982.1
    rw [← g982] at A982 Ex982 st982
    have S_dc_984 := S_dc.ext E982
    have V_b982 : Arv Z h982 b982 k982 .int (0 : Int32) [] (.int (0 : Int32)) := Arv.new A982 (by decide)
    refine own_back st982 ?_
    show own_End p e below s _ _ _ (T982.setTop (mkF m 54 #[.val (.int p0), .val (.int p1), .val (.int p2), .val (.int p3), .val (.long q4), .second, .val (.int p5), .val (.int (own_F1 p1 (own_F1 p2 p3))), .val (.int (own_F2 p1 (own_F2 p2 p3))), .val (.int (own_F2 (own_F1 p1 p2) (own_F1 (own_F2 p1 p2) p3))), .val (.int (0 : Int32)), .unset, .unset, .unset, .unset, .unset, .unset, .unset] [(.ref b982)])) ReturnedEndW
    refine own_astore X982 hx (hb hby at_54) rfl (l' := #[.val (.int p0), .val (.int p1), .val (.int p2), .val (.int p3), .val (.long q4), .second, .val (.int p5), .val (.int (own_F1 p1 (own_F1 p2 p3))), .val (.int (own_F2 p1 (own_F2 p2 p3))), .val (.int (own_F2 (own_F1 p1 p2) (own_F1 (own_F2 p1 p2) p3))), .val (.int (0 : Int32)), .val (.ref b982), .unset, .unset, .unset, .unset, .unset, .unset]) rfl (q := 56) rfl ?_
    refine own_goto X982 hx (hb hby at_56) (q := 122) (by decide) (by decide) ?_
    refine own_iload X982 hx (hb hby at_122) rfl (q := 124) rfl ?_
    refine own_bipush X982 hx (hb hby at_124) (z := 15) rfl (q := 126) rfl ?_
    refine own_iand X982 hx (hb hby at_126) (q := 127) rfl ?_
    refine own_istore X982 hx (hb hby at_127) (l' := #[.val (.int p0), .val (.int p1), .val (.int p2), .val (.int p3), .val (.long q4), .second, .val (.int p5), .val (.int (own_F1 p1 (own_F1 p2 p3))), .val (.int (own_F2 p1 (own_F2 p2 p3))), .val (.int (own_F2 (own_F1 p1 p2) (own_F1 (own_F2 p1 p2) p3))), .val (.int (0 : Int32)), .val (.ref b982), .val (.int (p5 &&& (15 : Int32))), .unset, .unset, .unset, .unset, .unset]) rfl (q := 129) rfl ?_
    refine own_iload X982 hx (hb hby at_129) rfl (q := 131) rfl ?_
    refine own_bipush X982 hx (hb hby at_131) (z := 9) rfl (q := 133) rfl ?_
    suffices J996 : own_End p e below s (own_Q0 Z p0 p1 p2 p3 q4 p5 sa h0 n0) room_1.cells room_1.slots (T982.setTop (mkF m 187 #[.val (.int p0), .val (.int p1), .val (.int p2), .val (.int p3), .val (.long q4), .second, .val (.int p5), .val (.int (own_F1 p1 (own_F1 p2 p3))), .val (.int (own_F2 p1 (own_F2 p2 p3))), .val (.int (own_F2 (own_F1 p1 p2) (own_F1 (own_F2 p1 p2) p3))), .val (.int (0 : Int32)), .val (.ref b982), .val (.int (p5 &&& (15 : Int32))), .val (.long (own_M0_133 p1 p2 p3 q4 p5)), .second, (if (p5 &&& (15 : Int32)) < (9 : Int32) then (Slot.val (.int ((p5 &&& (15 : Int32)) / (3 : Int32)))) else (Slot.unset)), (if (p5 &&& (15 : Int32)) < (9 : Int32) then (Slot.val (.int (own_M0_144 p1 p2 p3 p5))) else (Slot.unset)), .unset] [])) ReturnedEndW by
      by_cases hc133_985 : (p5 &&& (15 : Int32)) < (9 : Int32)
      · refine own_icN X982 hx (hb hby at_133) (tlt hc133_985).2.1 (q := 136) rfl ?_
        refine own_iload X982 hx (hb hby at_136) rfl (q := 138) rfl ?_
        refine own_iconst X982 hx (hb hby at_138) (z := 3) rfl (q := 139) rfl ?_
        refine own_idiv X982 hx (hb hby at_139) (by decide) (q := 140) rfl ?_
        refine own_istore X982 hx (hb hby at_140) (l' := #[.val (.int p0), .val (.int p1), .val (.int p2), .val (.int p3), .val (.long q4), .second, .val (.int p5), .val (.int (own_F1 p1 (own_F1 p2 p3))), .val (.int (own_F2 p1 (own_F2 p2 p3))), .val (.int (own_F2 (own_F1 p1 p2) (own_F1 (own_F2 p1 p2) p3))), .val (.int (0 : Int32)), .val (.ref b982), .val (.int (p5 &&& (15 : Int32))), .unset, .unset, .val (.int ((p5 &&& (15 : Int32)) / (3 : Int32))), .unset, .unset]) rfl (q := 142) rfl ?_
        refine own_iload X982 hx (hb hby at_142) rfl (q := 144) rfl ?_
        suffices J993 : own_End p e below s (own_Q0 Z p0 p1 p2 p3 q4 p5 sa h0 n0) room_1.cells room_1.slots (T982.setTop (mkF m 165 #[.val (.int p0), .val (.int p1), .val (.int p2), .val (.int p3), .val (.long q4), .second, .val (.int p5), .val (.int (own_F1 p1 (own_F1 p2 p3))), .val (.int (own_F2 p1 (own_F2 p2 p3))), .val (.int (own_F2 (own_F1 p1 p2) (own_F1 (own_F2 p1 p2) p3))), .val (.int (0 : Int32)), .val (.ref b982), .val (.int (p5 &&& (15 : Int32))), .unset, .unset, .val (.int ((p5 &&& (15 : Int32)) / (3 : Int32))), .unset, .unset] [(.int (own_M0_144 p1 p2 p3 p5))])) ReturnedEndW by
          by_cases hc144_986 : ((p5 &&& (15 : Int32)) / (3 : Int32)) = (0 : Int32)
          · refine own_ifN X982 hx (hb hby at_144) (teq hc144_986).2 (q := 147) rfl ?_
            refine own_iload X982 hx (hb hby at_147) rfl (q := 149) rfl ?_
            refine own_goto X982 hx (hb hby at_149) (q := 165) (by decide) (by decide) ?_
            simp only [own_M0_144, if_pos hc144_986] at J993
            exact J993
          · refine own_ifY X982 hx (hb hby at_144) (feq hc144_986).2 (q := 152) (by decide) (by decide) ?_
            refine own_iload X982 hx (hb hby at_152) rfl (q := 154) rfl ?_
            refine own_iconst X982 hx (hb hby at_154) (z := 1) rfl (q := 155) rfl ?_
            suffices J991 : own_End p e below s (own_Q0 Z p0 p1 p2 p3 q4 p5 sa h0 n0) room_1.cells room_1.slots (T982.setTop (mkF m 165 #[.val (.int p0), .val (.int p1), .val (.int p2), .val (.int p3), .val (.long q4), .second, .val (.int p5), .val (.int (own_F1 p1 (own_F1 p2 p3))), .val (.int (own_F2 p1 (own_F2 p2 p3))), .val (.int (own_F2 (own_F1 p1 p2) (own_F1 (own_F2 p1 p2) p3))), .val (.int (0 : Int32)), .val (.ref b982), .val (.int (p5 &&& (15 : Int32))), .unset, .unset, .val (.int ((p5 &&& (15 : Int32)) / (3 : Int32))), .unset, .unset] [(.int (own_M0_155 p1 p2 p3 p5))])) ReturnedEndW by
              by_cases hc155_988 : ((p5 &&& (15 : Int32)) / (3 : Int32)) = (1 : Int32)
              · refine own_icN X982 hx (hb hby at_155) (teq hc155_988).2 (q := 158) rfl ?_
                refine own_iload X982 hx (hb hby at_158) rfl (q := 160) rfl ?_
                refine own_goto X982 hx (hb hby at_160) (q := 165) (by decide) (by decide) ?_
                simp only [own_M0_155, if_pos hc155_988] at J991
                exact J991
              · refine own_icY X982 hx (hb hby at_155) (feq hc155_988).2 (q := 163) (by decide) (by decide) ?_
                refine own_iload X982 hx (hb hby at_163) rfl (q := 165) rfl ?_
                simp only [own_M0_155, if_neg hc155_988] at J991
                exact J991
            simp only [own_M0_144, if_neg hc144_986] at J993
            exact J993
        refine own_istore X982 hx (hb hby at_165) (l' := #[.val (.int p0), .val (.int p1), .val (.int p2), .val (.int p3), .val (.long q4), .second, .val (.int p5), .val (.int (own_F1 p1 (own_F1 p2 p3))), .val (.int (own_F2 p1 (own_F2 p2 p3))), .val (.int (own_F2 (own_F1 p1 p2) (own_F1 (own_F2 p1 p2) p3))), .val (.int (0 : Int32)), .val (.ref b982), .val (.int (p5 &&& (15 : Int32))), .unset, .unset, .val (.int ((p5 &&& (15 : Int32)) / (3 : Int32))), .val (.int (own_M0_144 p1 p2 p3 p5)), .unset]) rfl (q := 167) rfl ?_
        refine own_iload X982 hx (hb hby at_167) rfl (q := 169) rfl ?_
        refine own_i2l X982 hx (hb hby at_169) (q := 170) rfl ?_
        refine own_iload X982 hx (hb hby at_170) rfl (q := 172) rfl ?_
        refine own_iconst X982 hx (hb hby at_172) (z := 3) rfl (q := 173) rfl ?_
        refine own_irem X982 hx (hb hby at_173) (by decide) (q := 174) rfl ?_
        refine own_i2l X982 hx (hb hby at_174) (q := 175) rfl ?_
        refine own_ladd X982 hx (hb hby at_175) (q := 176) rfl ?_
        refine own_lconst X982 hx (hb hby at_176) (z := 1) rfl (q := 177) rfl ?_
        refine own_lsub X982 hx (hb hby at_177) (q := 178) rfl ?_
        refine own_lstore X982 hx (hb hby at_178) (l' := #[.val (.int p0), .val (.int p1), .val (.int p2), .val (.int p3), .val (.long q4), .second, .val (.int p5), .val (.int (own_F1 p1 (own_F1 p2 p3))), .val (.int (own_F2 p1 (own_F2 p2 p3))), .val (.int (own_F2 (own_F1 p1 p2) (own_F1 (own_F2 p1 p2) p3))), .val (.int (0 : Int32)), .val (.ref b982), .val (.int (p5 &&& (15 : Int32))), .val (.long ((((own_M0_144 p1 p2 p3 p5).toInt64) + (((p5 &&& (15 : Int32)) % (3 : Int32)).toInt64)) - (1 : Int64))), .second, .val (.int ((p5 &&& (15 : Int32)) / (3 : Int32))), .val (.int (own_M0_144 p1 p2 p3 p5)), .unset]) rfl (q := 180) rfl ?_
        refine own_goto X982 hx (hb hby at_180) (q := 187) (by decide) (by decide) ?_
        simp only [own_M0_133, if_pos hc133_985] at J996
        exact J996
      · refine own_icY X982 hx (hb hby at_133) (flt hc133_985).2.1 (q := 183) (by decide) (by decide) ?_
        refine own_lload X982 hx (hb hby at_183) rfl (q := 185) rfl ?_
        refine own_lstore X982 hx (hb hby at_185) (l' := #[.val (.int p0), .val (.int p1), .val (.int p2), .val (.int p3), .val (.long q4), .second, .val (.int p5), .val (.int (own_F1 p1 (own_F1 p2 p3))), .val (.int (own_F2 p1 (own_F2 p2 p3))), .val (.int (own_F2 (own_F1 p1 p2) (own_F1 (own_F2 p1 p2) p3))), .val (.int (0 : Int32)), .val (.ref b982), .val (.int (p5 &&& (15 : Int32))), .val (.long q4), .second, .unset, .unset, .unset]) rfl (q := 187) rfl ?_
        simp only [own_M0_133, if_neg hc133_985] at J996
        exact J996
    obtain ⟨T997, h997, X997, e997, E997, A997, D997, -, st997⟩ := newO X982 hx hZ hown (hw _ (List.mem_of_getElem? (i := 8) rfl)) (hw _ (List.mem_of_getElem? (i := 9) rfl)) (hw _ (List.mem_of_getElem? (i := 10) rfl)) e982 (g := (mkF m 187 #[.val (.int p0), .val (.int p1), .val (.int p2), .val (.int p3), .val (.long q4), .second, .val (.int p5), .val (.int (own_F1 p1 (own_F1 p2 p3))), .val (.int (own_F2 p1 (own_F2 p2 p3))), .val (.int (own_F2 (own_F1 p1 p2) (own_F1 (own_F2 p1 p2) p3))), .val (.int (0 : Int32)), .val (.ref b982), .val (.int (p5 &&& (15 : Int32))), .val (.long (own_M0_133 p1 p2 p3 q4 p5)), .second, (if (p5 &&& (15 : Int32)) < (9 : Int32) then (Slot.val (.int ((p5 &&& (15 : Int32)) / (3 : Int32)))) else (Slot.unset)), (if (p5 &&& (15 : Int32)) < (9 : Int32) then (Slot.val (.int (own_M0_144 p1 p2 p3 p5))) else (Slot.unset)), .unset] [])) rfl (hb hby at_187) (by decide) (by decide)
    obtain ⟨b997, g997⟩ : ∃ z, z = h982.size := ⟨_, rfl⟩
    have ne_b982_b997 : b982 ≠ b997 := Nat.ne_of_lt (Nat.lt_of_lt_of_le Ex982.lt (Nat.le_of_eq g997.symm))
    have g_b997 : n0 ≤ b997 := Nat.le_trans Z983 (Nat.le_of_eq g997.symm)
    have Z998 := Nat.le_trans Z983 E997.1
    rw [← g997] at A997 D997 st997
    have S_dc_999 := S_dc_984.ext E997
    have Ex982_1000 := Ex982.ext E997
    have V_b982_1001 := V_b982.ext E997
    have F_b997_constraints : Fld Z h997 b997 "com/example/arcwise/arcwise/network/Variable" "constraints" "Ljava/util/List;" .null := D997 (Or.inr (hw _ (List.mem_of_getElem? (i := 65) rfl))) (ty := (.object "java/util/List")) (by decide)
    have F_b997_index : Fld Z h997 b997 "com/example/arcwise/arcwise/network/Variable" "index" "I" (.int (0 : Int32)) := D997 (Or.inr (hw _ (List.mem_of_getElem? (i := 67) rfl))) (ty := .int) (by decide)
    have F_b997_name : Fld Z h997 b997 "com/example/arcwise/arcwise/network/Variable" "name" "Ljava/lang/String;" .null := D997 (Or.inr (hw _ (List.mem_of_getElem? (i := 69) rfl))) (ty := (.object "java/lang/String")) (by decide)
    have F_b997_values : Fld Z h997 b997 "com/example/arcwise/arcwise/network/Variable" "values" "[I" .null := D997 (Or.inr (hw _ (List.mem_of_getElem? (i := 80) rfl))) (ty := (.array .int)) (by decide)
    have F_b997_domain : Fld Z h997 b997 "com/example/arcwise/arcwise/network/Variable" "domain" "Lcom/example/arcwise/arcwise/network/Domain;" .null := D997 (Or.inr (hw _ (List.mem_of_getElem? (i := 98) rfl))) (ty := (.object "com/example/arcwise/arcwise/network/Domain")) (by decide)
    have F_b997_assignmentListeners : Fld Z h997 b997 "com/example/arcwise/arcwise/network/Variable" "assignmentListeners" "Ljava/util/List;" .null := D997 (Or.inr (hw _ (List.mem_of_getElem? (i := 100) rfl))) (ty := (.object "java/util/List")) (by decide)
    refine own_back st997 ?_
    show own_End p e below s _ _ _ (T997.setTop (mkF m 190 #[.val (.int p0), .val (.int p1), .val (.int p2), .val (.int p3), .val (.long q4), .second, .val (.int p5), .val (.int (own_F1 p1 (own_F1 p2 p3))), .val (.int (own_F2 p1 (own_F2 p2 p3))), .val (.int (own_F2 (own_F1 p1 p2) (own_F1 (own_F2 p1 p2) p3))), .val (.int (0 : Int32)), .val (.ref b982), .val (.int (p5 &&& (15 : Int32))), .val (.long (own_M0_133 p1 p2 p3 q4 p5)), .second, (if (p5 &&& (15 : Int32)) < (9 : Int32) then (Slot.val (.int ((p5 &&& (15 : Int32)) / (3 : Int32)))) else (Slot.unset)), (if (p5 &&& (15 : Int32)) < (9 : Int32) then (Slot.val (.int (own_M0_144 p1 p2 p3 p5))) else (Slot.unset)), .unset] [(.ref b997)])) ReturnedEndW
    refine own_dup X997 hx (hb hby at_190) rfl (q := 191) rfl ?_
    refine own_iconst X997 hx (hb hby at_191) (z := 0) rfl (q := 192) rfl ?_
    obtain ⟨as1002, T1002, h1002, k11002, X1002, e1002, E1002, hS1002, hk1002, hZ, hown, -, -, st1002⟩ := ldcOH (EL := []) (s := s) (vm0 := s.vm) X997 hx hZ hown (hw _ (List.mem_of_getElem? (i := 11) rfl)) (own_sat hw) e997 own_since0 (Nat.zero_le _) EW.nil own_chv0 (g := (mkF m 192 #[.val (.int p0), .val (.int p1), .val (.int p2), .val (.int p3), .val (.long q4), .second, .val (.int p5), .val (.int (own_F1 p1 (own_F1 p2 p3))), .val (.int (own_F2 p1 (own_F2 p2 p3))), .val (.int (own_F2 (own_F1 p1 p2) (own_F1 (own_F2 p1 p2) p3))), .val (.int (0 : Int32)), .val (.ref b982), .val (.int (p5 &&& (15 : Int32))), .val (.long (own_M0_133 p1 p2 p3 q4 p5)), .second, (if (p5 &&& (15 : Int32)) < (9 : Int32) then (Slot.val (.int ((p5 &&& (15 : Int32)) / (3 : Int32)))) else (Slot.unset)), (if (p5 &&& (15 : Int32)) < (9 : Int32) then (Slot.val (.int (own_M0_144 p1 p2 p3 p5))) else (Slot.unset)), .unset] [(.int (0 : Int32)), (.ref b997), (.ref b997)])) rfl (hb hby at_192) (n := 4) (by decide) (by decide) (by decide) (by decide)
    have Z1003 := Nat.le_trans Z998 E1002.1
    have S_dc_1004 := S_dc_999.ext E1002
    have Ex982_1005 := Ex982_1000.ext E1002
    have V_b982_1006 := V_b982_1001.ext E1002
    have A997_1007 := A997.ext E1002
    have F_b997_constraints_1008 := F_b997_constraints.ext E1002
    have F_b997_index_1009 := F_b997_index.ext E1002
    have F_b997_name_1010 := F_b997_name.ext E1002
    have F_b997_values_1011 := F_b997_values.ext E1002
    have F_b997_domain_1012 := F_b997_domain.ext E1002
    have F_b997_assignmentListeners_1013 := F_b997_assignmentListeners.ext E1002
    refine own_back st1002 ?_
    show own_End p e below s _ _ _ (T1002.setTop (mkF m 194 #[.val (.int p0), .val (.int p1), .val (.int p2), .val (.int p3), .val (.long q4), .second, .val (.int p5), .val (.int (own_F1 p1 (own_F1 p2 p3))), .val (.int (own_F2 p1 (own_F2 p2 p3))), .val (.int (own_F2 (own_F1 p1 p2) (own_F1 (own_F2 p1 p2) p3))), .val (.int (0 : Int32)), .val (.ref b982), .val (.int (p5 &&& (15 : Int32))), .val (.long (own_M0_133 p1 p2 p3 q4 p5)), .second, (if (p5 &&& (15 : Int32)) < (9 : Int32) then (Slot.val (.int ((p5 &&& (15 : Int32)) / (3 : Int32)))) else (Slot.unset)), (if (p5 &&& (15 : Int32)) < (9 : Int32) then (Slot.val (.int (own_M0_144 p1 p2 p3 p5))) else (Slot.unset)), .unset] [(.ref as1002), (.int (0 : Int32)), (.ref b997), (.ref b997)])) ReturnedEndW
    refine own_aload X1002 hx (hb hby at_194) rfl rfl (q := 196) rfl ?_
    obtain ⟨T1014, h1014, X1014, e1014, E1014, A1014, D1014, -, st1014⟩ := newO X1002 hx hZ hown (hw _ (List.mem_of_getElem? (i := 19) rfl)) (hw _ (List.mem_of_getElem? (i := 20) rfl)) (hw _ (List.mem_of_getElem? (i := 21) rfl)) e1002 (g := (mkF m 196 #[.val (.int p0), .val (.int p1), .val (.int p2), .val (.int p3), .val (.long q4), .second, .val (.int p5), .val (.int (own_F1 p1 (own_F1 p2 p3))), .val (.int (own_F2 p1 (own_F2 p2 p3))), .val (.int (own_F2 (own_F1 p1 p2) (own_F1 (own_F2 p1 p2) p3))), .val (.int (0 : Int32)), .val (.ref b982), .val (.int (p5 &&& (15 : Int32))), .val (.long (own_M0_133 p1 p2 p3 q4 p5)), .second, (if (p5 &&& (15 : Int32)) < (9 : Int32) then (Slot.val (.int ((p5 &&& (15 : Int32)) / (3 : Int32)))) else (Slot.unset)), (if (p5 &&& (15 : Int32)) < (9 : Int32) then (Slot.val (.int (own_M0_144 p1 p2 p3 p5))) else (Slot.unset)), .unset] [(.ref b982), (.ref as1002), (.int (0 : Int32)), (.ref b997), (.ref b997)])) rfl (hb hby at_196) (by decide) (by decide)
    obtain ⟨b1014, g1014⟩ : ∃ z, z = h1002.size := ⟨_, rfl⟩
    have ne_b982_b1014 : b982 ≠ b1014 := Nat.ne_of_lt (Nat.lt_of_lt_of_le Ex982_1005.lt (Nat.le_of_eq g1014.symm))
    have ne_b997_b1014 : b997 ≠ b1014 := Nat.ne_of_lt (Nat.lt_of_lt_of_le A997_1007.lt (Nat.le_of_eq g1014.symm))
    have g_b1014 : n0 ≤ b1014 := Nat.le_trans Z1003 (Nat.le_of_eq g1014.symm)
    have Z1015 := Nat.le_trans Z1003 E1014.1
    have kZ1015 := Nat.le_trans hk1002 E1014.1
    rw [← g1014] at A1014 D1014 st1014
    have S_dc_1016 := S_dc_1004.ext E1014
    have Ex982_1017 := Ex982_1005.ext E1014
    have V_b982_1018 := V_b982_1006.ext E1014
    have A997_1019 := A997_1007.ext E1014
    have F_b997_constraints_1020 := F_b997_constraints_1008.ext E1014
    have F_b997_index_1021 := F_b997_index_1009.ext E1014
    have F_b997_name_1022 := F_b997_name_1010.ext E1014
    have F_b997_values_1023 := F_b997_values_1011.ext E1014
    have F_b997_domain_1024 := F_b997_domain_1012.ext E1014
    have F_b997_assignmentListeners_1025 := F_b997_assignmentListeners_1013.ext E1014
    have F_b1014_domains : Fld Z h1014 b1014 "com/example/arcwise/arcwise/network/Trail" "domains" "[Lcom/example/arcwise/arcwise/network/Domain;" .null := D1014 (Or.inl (hw _ (List.mem_of_getElem? (i := 31) rfl))) (ty := (.array (.object "com/example/arcwise/arcwise/network/Domain"))) (by decide)
    have F_b1014_indexes : Fld Z h1014 b1014 "com/example/arcwise/arcwise/network/Trail" "indexes" "[I" .null := D1014 (Or.inl (hw _ (List.mem_of_getElem? (i := 33) rfl))) (ty := (.array .int)) (by decide)
    refine own_back st1014 ?_
    show own_End p e below s _ _ _ (T1014.setTop (mkF m 199 #[.val (.int p0), .val (.int p1), .val (.int p2), .val (.int p3), .val (.long q4), .second, .val (.int p5), .val (.int (own_F1 p1 (own_F1 p2 p3))), .val (.int (own_F2 p1 (own_F2 p2 p3))), .val (.int (own_F2 (own_F1 p1 p2) (own_F1 (own_F2 p1 p2) p3))), .val (.int (0 : Int32)), .val (.ref b982), .val (.int (p5 &&& (15 : Int32))), .val (.long (own_M0_133 p1 p2 p3 q4 p5)), .second, (if (p5 &&& (15 : Int32)) < (9 : Int32) then (Slot.val (.int ((p5 &&& (15 : Int32)) / (3 : Int32)))) else (Slot.unset)), (if (p5 &&& (15 : Int32)) < (9 : Int32) then (Slot.val (.int (own_M0_144 p1 p2 p3 p5))) else (Slot.unset)), .unset] [(.ref b1014), (.ref b982), (.ref as1002), (.int (0 : Int32)), (.ref b997), (.ref b997)])) ReturnedEndW
    refine own_dup X1014 hx (hb hby at_199) rfl (q := 200) rfl ?_
    obtain ⟨T1026, Lc1026, L1026, X1026, N1026, hQ1026, st1026⟩ := own_shutV (val := none) (Q := own_Q3 Z b1014 .null .null h1014 n0) (rc := 2) (rs := 512) N980 (fun _ _ _ q => ⟨q.1, q.2.1⟩) (X1014.specialBack hx (y := (⟨"com/example/arcwise/arcwise/network/Trail", "<init>", "()V"⟩ : MethodName)) rfl hown (mvT hZ (hw _ (List.mem_of_getElem? (i := 22) rfl))) (mvT hZ (hw _ (List.mem_of_getElem? (i := 23) rfl))) (mvT hZ (hw _ (List.mem_of_getElem? (i := 24) rfl))) (by decide) (backOf (W := 6) (own_rm3 l Z a0 hw [] b1014 .null .null h1014 n0 Z1015 A1014 F_b1014_domains F_b1014_indexes g_b1014) hZ (hw _ (List.mem_of_getElem? (i := 24) rfl)) (hw _ (List.mem_of_getElem? (i := 21) rfl)) (by decide) (by decide)) (g := (mkF m 200 #[.val (.int p0), .val (.int p1), .val (.int p2), .val (.int p3), .val (.long q4), .second, .val (.int p5), .val (.int (own_F1 p1 (own_F1 p2 p3))), .val (.int (own_F2 p1 (own_F2 p2 p3))), .val (.int (own_F2 (own_F1 p1 p2) (own_F1 (own_F2 p1 p2) p3))), .val (.int (0 : Int32)), .val (.ref b982), .val (.int (p5 &&& (15 : Int32))), .val (.long (own_M0_133 p1 p2 p3 q4 p5)), .second, (if (p5 &&& (15 : Int32)) < (9 : Int32) then (Slot.val (.int ((p5 &&& (15 : Int32)) / (3 : Int32)))) else (Slot.unset)), (if (p5 &&& (15 : Int32)) < (9 : Int32) then (Slot.val (.int (own_M0_144 p1 p2 p3 p5))) else (Slot.unset)), .unset] [(.ref b1014), (.ref b1014), (.ref b982), (.ref as1002), (.int (0 : Int32)), (.ref b997), (.ref b997)])) rfl (by rw [hml]; rfl) (Steps.refl _) (a := b1014) (argsL := []) (rest := [(.ref b1014), (.ref b982), (.ref as1002), (.int (0 : Int32)), (.ref b997), (.ref b997)]) (lenOf own_pd0 rfl) rfl (by show 2 * 0 + _ ≤ _; exact Nat.le_of_eq rfl) (hb hby at_200) (fun _ _ => ⟨rfl, e1014, (by decide : 5 + 2 ≤ _), (by decide : 19 + 512 ≤ _)⟩))
    obtain ⟨-, -, K1026, Q1026_0⟩ := hQ1026
    have S_dc_1027 := own_StaK S_dc_1016 K1026 (allS (P := fun o => ∃ C, Exa Z _ o C) ⟨_, A1014⟩ all0)
    have Ex982_1028 := Ex982_1017.keep K1026
    have V_b982_1029 := V_b982_1018.keep K1026 (ninS ne_b982_b1014 nin0)
    have A997_1030 := A997_1019.keep K1026
    have F_b997_constraints_1031 := F_b997_constraints_1020.keep K1026 (ninS ne_b997_b1014 nin0)
    have F_b997_index_1032 := F_b997_index_1021.keep K1026 (ninS ne_b997_b1014 nin0)
    have F_b997_name_1033 := F_b997_name_1022.keep K1026 (ninS ne_b997_b1014 nin0)
    have F_b997_values_1034 := F_b997_values_1023.keep K1026 (ninS ne_b997_b1014 nin0)
    have F_b997_domain_1035 := F_b997_domain_1024.keep K1026 (ninS ne_b997_b1014 nin0)
    have F_b997_assignmentListeners_1036 := F_b997_assignmentListeners_1025.keep K1026 (ninS ne_b997_b1014 nin0)
    have A1014_1037 := A1014.keep K1026
    have Z1038 := Nat.le_trans Z1015 K1026.1
    have kZ1038 := Nat.le_trans kZ1015 K1026.1
    refine own_via st1026 ?_
    show own_End p e below s _ _ _ (T1026.setTop (mkF m 203 #[.val (.int p0), .val (.int p1), .val (.int p2), .val (.int p3), .val (.long q4), .second, .val (.int p5), .val (.int (own_F1 p1 (own_F1 p2 p3))), .val (.int (own_F2 p1 (own_F2 p2 p3))), .val (.int (own_F2 (own_F1 p1 p2) (own_F1 (own_F2 p1 p2) p3))), .val (.int (0 : Int32)), .val (.ref b982), .val (.int (p5 &&& (15 : Int32))), .val (.long (own_M0_133 p1 p2 p3 q4 p5)), .second, (if (p5 &&& (15 : Int32)) < (9 : Int32) then (Slot.val (.int ((p5 &&& (15 : Int32)) / (3 : Int32)))) else (Slot.unset)), (if (p5 &&& (15 : Int32)) < (9 : Int32) then (Slot.val (.int (own_M0_144 p1 p2 p3 p5))) else (Slot.unset)), .unset] [(.ref b1014), (.ref b982), (.ref as1002), (.int (0 : Int32)), (.ref b997), (.ref b997)])) ReturnedEndW
    obtain ⟨T1039, h1039, X1039, e1039, E1039, A1039, D1039, -, st1039⟩ := newO X1026 hx hZ hown (hw _ (List.mem_of_getElem? (i := 34) rfl)) (hw _ (List.mem_of_getElem? (i := 35) rfl)) (hw _ (List.mem_of_getElem? (i := 36) rfl)) rfl (g := (mkF m 203 #[.val (.int p0), .val (.int p1), .val (.int p2), .val (.int p3), .val (.long q4), .second, .val (.int p5), .val (.int (own_F1 p1 (own_F1 p2 p3))), .val (.int (own_F2 p1 (own_F2 p2 p3))), .val (.int (own_F2 (own_F1 p1 p2) (own_F1 (own_F2 p1 p2) p3))), .val (.int (0 : Int32)), .val (.ref b982), .val (.int (p5 &&& (15 : Int32))), .val (.long (own_M0_133 p1 p2 p3 q4 p5)), .second, (if (p5 &&& (15 : Int32)) < (9 : Int32) then (Slot.val (.int ((p5 &&& (15 : Int32)) / (3 : Int32)))) else (Slot.unset)), (if (p5 &&& (15 : Int32)) < (9 : Int32) then (Slot.val (.int (own_M0_144 p1 p2 p3 p5))) else (Slot.unset)), .unset] [(.ref b1014), (.ref b982), (.ref as1002), (.int (0 : Int32)), (.ref b997), (.ref b997)])) rfl (hb hby at_203) (by decide) (by decide)
    obtain ⟨b1039, g1039⟩ : ∃ z, z = T1026.heap.size := ⟨_, rfl⟩
    have ne_b982_b1039 : b982 ≠ b1039 := Nat.ne_of_lt (Nat.lt_of_lt_of_le Ex982_1028.lt (Nat.le_of_eq g1039.symm))
    have ne_b997_b1039 : b997 ≠ b1039 := Nat.ne_of_lt (Nat.lt_of_lt_of_le A997_1030.lt (Nat.le_of_eq g1039.symm))
    have ne_b1014_b1039 : b1014 ≠ b1039 := Nat.ne_of_lt (Nat.lt_of_lt_of_le Q1026_0.lt (Nat.le_of_eq g1039.symm))
    have g_b1039 : n0 ≤ b1039 := Nat.le_trans Z1038 (Nat.le_of_eq g1039.symm)
    have Z1040 := Nat.le_trans Z1038 E1039.1
    have kZ1040 := Nat.le_trans kZ1038 E1039.1
    rw [← g1039] at A1039 D1039 st1039
    have S_dc_1041 := S_dc_1027.ext E1039
    have Ex982_1042 := Ex982_1028.ext E1039
    have V_b982_1043 := V_b982_1029.ext E1039
    have A997_1044 := A997_1030.ext E1039
    have F_b997_constraints_1045 := F_b997_constraints_1031.ext E1039
    have F_b997_index_1046 := F_b997_index_1032.ext E1039
    have F_b997_name_1047 := F_b997_name_1033.ext E1039
    have F_b997_values_1048 := F_b997_values_1034.ext E1039
    have F_b997_domain_1049 := F_b997_domain_1035.ext E1039
    have F_b997_assignmentListeners_1050 := F_b997_assignmentListeners_1036.ext E1039
    have Q1026_1051 := Q1026_0.ext E1039
    have F_b1039_modCount : Fld Z h1039 b1039 "java/util/AbstractList" "modCount" "I" (.int (0 : Int32)) := D1039 (Or.inl (hw _ (List.mem_of_getElem? (i := 54) rfl))) (ty := .int) (by decide)
    have F_b1039_elementData : Fld Z h1039 b1039 "java/util/ArrayList" "elementData" "[Ljava/lang/Object;" .null := D1039 (Or.inl (hw _ (List.mem_of_getElem? (i := 57) rfl))) (ty := (.array (.object "java/lang/Object"))) (by decide)
    refine own_back st1039 ?_
    show own_End p e below s _ _ _ (T1039.setTop (mkF m 206 #[.val (.int p0), .val (.int p1), .val (.int p2), .val (.int p3), .val (.long q4), .second, .val (.int p5), .val (.int (own_F1 p1 (own_F1 p2 p3))), .val (.int (own_F2 p1 (own_F2 p2 p3))), .val (.int (own_F2 (own_F1 p1 p2) (own_F1 (own_F2 p1 p2) p3))), .val (.int (0 : Int32)), .val (.ref b982), .val (.int (p5 &&& (15 : Int32))), .val (.long (own_M0_133 p1 p2 p3 q4 p5)), .second, (if (p5 &&& (15 : Int32)) < (9 : Int32) then (Slot.val (.int ((p5 &&& (15 : Int32)) / (3 : Int32)))) else (Slot.unset)), (if (p5 &&& (15 : Int32)) < (9 : Int32) then (Slot.val (.int (own_M0_144 p1 p2 p3 p5))) else (Slot.unset)), .unset] [(.ref b1039), (.ref b1014), (.ref b982), (.ref as1002), (.int (0 : Int32)), (.ref b997), (.ref b997)])) ReturnedEndW
    refine own_dup X1039 hx (hb hby at_206) rfl (q := 207) rfl ?_
    obtain ⟨T1052, Lc1052, L1052, X1052, N1052, hQ1052, st1052⟩ := own_shutV (val := none) (Q := own_Q5 Z b1039 (0 : Int32) .null sa h1039 n0) (rc := 0) (rs := 0) N1026 (fun _ _ _ q => ⟨q.1, q.2.1⟩) (X1039.specialBack hx (y := (⟨"java/util/ArrayList", "<init>", "()V"⟩ : MethodName)) rfl hown (mvT hZ (hw _ (List.mem_of_getElem? (i := 37) rfl))) (mvT hZ (hw _ (List.mem_of_getElem? (i := 38) rfl))) (mvT hZ (hw _ (List.mem_of_getElem? (i := 39) rfl))) (by decide) (backOf (W := 7) (own_rm5 l Z a0 hw [] b1039 (0 : Int32) .null sa h1039 n0 Z1040 A1039 F_b1039_modCount F_b1039_elementData S_dc_1041 g_b1039) hZ (hw _ (List.mem_of_getElem? (i := 39) rfl)) (hw _ (List.mem_of_getElem? (i := 36) rfl)) (by decide) (by decide)) (g := (mkF m 207 #[.val (.int p0), .val (.int p1), .val (.int p2), .val (.int p3), .val (.long q4), .second, .val (.int p5), .val (.int (own_F1 p1 (own_F1 p2 p3))), .val (.int (own_F2 p1 (own_F2 p2 p3))), .val (.int (own_F2 (own_F1 p1 p2) (own_F1 (own_F2 p1 p2) p3))), .val (.int (0 : Int32)), .val (.ref b982), .val (.int (p5 &&& (15 : Int32))), .val (.long (own_M0_133 p1 p2 p3 q4 p5)), .second, (if (p5 &&& (15 : Int32)) < (9 : Int32) then (Slot.val (.int ((p5 &&& (15 : Int32)) / (3 : Int32)))) else (Slot.unset)), (if (p5 &&& (15 : Int32)) < (9 : Int32) then (Slot.val (.int (own_M0_144 p1 p2 p3 p5))) else (Slot.unset)), .unset] [(.ref b1039), (.ref b1039), (.ref b1014), (.ref b982), (.ref as1002), (.int (0 : Int32)), (.ref b997), (.ref b997)])) rfl (by rw [hml]; rfl) (Steps.refl _) (a := b1039) (argsL := []) (rest := [(.ref b1039), (.ref b1014), (.ref b982), (.ref as1002), (.int (0 : Int32)), (.ref b997), (.ref b997)]) (lenOf own_pd0 rfl) rfl (by show 2 * 0 + _ ≤ _; exact Nat.le_of_eq rfl) (hb hby at_207) (fun _ _ => ⟨rfl, e1039, (by decide : 8 + 0 ≤ _), (by decide : 534 + 0 ≤ _)⟩))
    obtain ⟨-, -, K1052, Q1052_0⟩ := hQ1052
    have S_dc_1053 := own_StaK S_dc_1041 K1052 (allS (P := fun o => ∃ C, Exa Z _ o C) ⟨_, A1039⟩ all0)
    have Ex982_1054 := Ex982_1042.keep K1052
    have V_b982_1055 := V_b982_1043.keep K1052 (ninS ne_b982_b1039 nin0)
    have A997_1056 := A997_1044.keep K1052
    have F_b997_constraints_1057 := F_b997_constraints_1045.keep K1052 (ninS ne_b997_b1039 nin0)
    have F_b997_index_1058 := F_b997_index_1046.keep K1052 (ninS ne_b997_b1039 nin0)
    have F_b997_name_1059 := F_b997_name_1047.keep K1052 (ninS ne_b997_b1039 nin0)
    have F_b997_values_1060 := F_b997_values_1048.keep K1052 (ninS ne_b997_b1039 nin0)
    have F_b997_domain_1061 := F_b997_domain_1049.keep K1052 (ninS ne_b997_b1039 nin0)
    have F_b997_assignmentListeners_1062 := F_b997_assignmentListeners_1050.keep K1052 (ninS ne_b997_b1039 nin0)
    have Q1026_1063 := Q1026_1051.keep K1052
    have A1039_1064 := A1039.keep K1052
    have Z1065 := Nat.le_trans Z1040 K1052.1
    have kZ1065 := Nat.le_trans kZ1040 K1052.1
    refine own_via st1052 ?_
    show own_End p e below s _ _ _ (T1052.setTop (mkF m 210 #[.val (.int p0), .val (.int p1), .val (.int p2), .val (.int p3), .val (.long q4), .second, .val (.int p5), .val (.int (own_F1 p1 (own_F1 p2 p3))), .val (.int (own_F2 p1 (own_F2 p2 p3))), .val (.int (own_F2 (own_F1 p1 p2) (own_F1 (own_F2 p1 p2) p3))), .val (.int (0 : Int32)), .val (.ref b982), .val (.int (p5 &&& (15 : Int32))), .val (.long (own_M0_133 p1 p2 p3 q4 p5)), .second, (if (p5 &&& (15 : Int32)) < (9 : Int32) then (Slot.val (.int ((p5 &&& (15 : Int32)) / (3 : Int32)))) else (Slot.unset)), (if (p5 &&& (15 : Int32)) < (9 : Int32) then (Slot.val (.int (own_M0_144 p1 p2 p3 p5))) else (Slot.unset)), .unset] [(.ref b1039), (.ref b1014), (.ref b982), (.ref as1002), (.int (0 : Int32)), (.ref b997), (.ref b997)])) ReturnedEndW
    obtain ⟨T1066, Lc1066, L1066, X1066, N1066, hQ1066, st1066⟩ := own_shutV (val := none) (Q := own_Q8_0 Z b997 (0 : Int32) as1002 b982 b1014 b1039 .null (0 : Int32) .null .null .null .null k982 sa T1052.heap n0) (rc := 4) (rs := 8) N1052 (fun _ _ _ q => ⟨q.1, q.2.1⟩) (X1052.specialBack hx (y := (⟨"com/example/arcwise/arcwise/network/Variable", "<init>", "(ILjava/lang/String;[ILcom/example/arcwise/arcwise/network/Trail;Ljava/util/List;)V"⟩ : MethodName)) rfl hown (mvT hZ (hw _ (List.mem_of_getElem? (i := 58) rfl))) (mvT hZ (hw _ (List.mem_of_getElem? (i := 59) rfl))) (mvT hZ (hw _ (List.mem_of_getElem? (i := 60) rfl))) (by decide) (backOf (W := 1) (own_rm8_0 l Z a0 hw [] b997 (0 : Int32) as1002 b982 b1014 b1039 .null (0 : Int32) .null .null .null .null k982 sa T1052.heap n0 Z1065 A997_1056 F_b997_constraints_1057 F_b997_index_1058 F_b997_name_1059 F_b997_values_1060 F_b997_domain_1061 F_b997_assignmentListeners_1062 V_b982_1055 Ex982_1054 (Ne.symm ne_b982_b997) S_dc_1053 g_b997) hZ (hw _ (List.mem_of_getElem? (i := 60) rfl)) (hw _ (List.mem_of_getElem? (i := 10) rfl)) (by decide) (by decide)) (g := (mkF m 210 #[.val (.int p0), .val (.int p1), .val (.int p2), .val (.int p3), .val (.long q4), .second, .val (.int p5), .val (.int (own_F1 p1 (own_F1 p2 p3))), .val (.int (own_F2 p1 (own_F2 p2 p3))), .val (.int (own_F2 (own_F1 p1 p2) (own_F1 (own_F2 p1 p2) p3))), .val (.int (0 : Int32)), .val (.ref b982), .val (.int (p5 &&& (15 : Int32))), .val (.long (own_M0_133 p1 p2 p3 q4 p5)), .second, (if (p5 &&& (15 : Int32)) < (9 : Int32) then (Slot.val (.int ((p5 &&& (15 : Int32)) / (3 : Int32)))) else (Slot.unset)), (if (p5 &&& (15 : Int32)) < (9 : Int32) then (Slot.val (.int (own_M0_144 p1 p2 p3 p5))) else (Slot.unset)), .unset] [(.ref b1039), (.ref b1014), (.ref b982), (.ref as1002), (.int (0 : Int32)), (.ref b997), (.ref b997)])) rfl (by rw [hml]; rfl) (Steps.refl _) (a := b997) (argsL := [(.int (0 : Int32)), (.ref as1002), (.ref b982), (.ref b1014), (.ref b1039)]) (rest := [(.ref b997)]) (lenOf own_pd3 rfl) rfl (by show 2 * 0 + _ ≤ _; exact Nat.le_of_eq rfl) (hb hby at_210) (fun _ _ => ⟨rfl, rfl, (by decide : 8 + 4 ≤ _), (by decide : 534 + 8 ≤ _)⟩))
    obtain ⟨-, -, K1066, b1066_0, k1066_0, sb1066_0, Q1066_0, Q1066_1, Q1066_2, Q1066_3⟩ := hQ1066
    have ne_b982_b1066_0 : b982 ≠ b1066_0 := Nat.ne_of_lt (Nat.lt_of_lt_of_le Ex982_1054.lt sb1066_0)
    have ne_b997_b1066_0 : b997 ≠ b1066_0 := Nat.ne_of_lt (Nat.lt_of_lt_of_le A997_1056.lt sb1066_0)
    have ne_b1014_b1066_0 : b1014 ≠ b1066_0 := Nat.ne_of_lt (Nat.lt_of_lt_of_le Q1026_1063.lt sb1066_0)
    have ne_b1039_b1066_0 : b1039 ≠ b1066_0 := Nat.ne_of_lt (Nat.lt_of_lt_of_le Q1052_0.lt sb1066_0)
    have g_b1066_0 : n0 ≤ b1066_0 := Nat.le_trans Z1065 sb1066_0
    have S_dc_1067 := own_StaK S_dc_1053 K1066 (allS (P := fun o => ∃ C, Exa Z _ o C) ⟨_, A997_1056⟩ all0)
    have Ex982_1068 := Ex982_1054.keep K1066
    have V_b982_1069 := V_b982_1055.keep K1066 (ninS ne_b982_b997 nin0)
    have A997_1070 := A997_1056.keep K1066
    have Q1026_1071 := Q1026_1063.keep K1066
    have Q1052_1072 := Q1052_0.keep K1066
    have Z1073 := Nat.le_trans Z1065 K1066.1
    have kZ1073 := Nat.le_trans kZ1065 K1066.1
    refine own_via st1066 ?_
    show own_End p e below s _ _ _ (T1066.setTop (mkF m 213 #[.val (.int p0), .val (.int p1), .val (.int p2), .val (.int p3), .val (.long q4), .second, .val (.int p5), .val (.int (own_F1 p1 (own_F1 p2 p3))), .val (.int (own_F2 p1 (own_F2 p2 p3))), .val (.int (own_F2 (own_F1 p1 p2) (own_F1 (own_F2 p1 p2) p3))), .val (.int (0 : Int32)), .val (.ref b982), .val (.int (p5 &&& (15 : Int32))), .val (.long (own_M0_133 p1 p2 p3 q4 p5)), .second, (if (p5 &&& (15 : Int32)) < (9 : Int32) then (Slot.val (.int ((p5 &&& (15 : Int32)) / (3 : Int32)))) else (Slot.unset)), (if (p5 &&& (15 : Int32)) < (9 : Int32) then (Slot.val (.int (own_M0_144 p1 p2 p3 p5))) else (Slot.unset)), .unset] [(.ref b997)])) ReturnedEndW
    refine own_astore X1066 hx (hb hby at_213) rfl (l' := #[.val (.int p0), .val (.int p1), .val (.int p2), .val (.int p3), .val (.long q4), .second, .val (.int p5), .val (.int (own_F1 p1 (own_F1 p2 p3))), .val (.int (own_F2 p1 (own_F2 p2 p3))), .val (.int (own_F2 (own_F1 p1 p2) (own_F1 (own_F2 p1 p2) p3))), .val (.int (0 : Int32)), .val (.ref b982), .val (.int (p5 &&& (15 : Int32))), .val (.long (own_M0_133 p1 p2 p3 q4 p5)), .second, .val (.ref b997), (if (p5 &&& (15 : Int32)) < (9 : Int32) then (Slot.val (.int (own_M0_144 p1 p2 p3 p5))) else (Slot.unset)), .unset]) (Or.elim (Classical.em ((p5 &&& (15 : Int32)) < (9 : Int32))) (fun hz0 => (by simp only [if_pos hz0]; rfl)) (fun hz0 => (by simp only [if_neg hz0]; rfl))) (q := 215) rfl ?_
    refine own_aload X1066 hx (hb hby at_215) rfl rfl (q := 217) rfl ?_
    refine own_lload X1066 hx (hb hby at_217) rfl (q := 219) rfl ?_
    obtain ⟨cq1074, kq1074, q1074a, q1074b, q1074c⟩ := isOf hZ rfl Q1066_0
    obtain ⟨T1074, Lc1074, L1074, X1074, N1074, hQ1074, st1074⟩ := own_shutV (val := some (.int (0 : Int32))) (Q := own_Q10_0 Z b997 (own_M0_133 p1 p2 p3 q4 p5) b1066_0 k1066_0 T1066.heap n0) (rc := 0) (rs := 0) N1066 (fun _ _ _ q => ⟨q.1, q.2.1⟩) (X1066.virtualBack hx (y := (⟨"com/example/arcwise/arcwise/network/Variable", "indexAtLeast", "(J)I"⟩ : MethodName)) (z := (⟨"com/example/arcwise/arcwise/network/Variable", "indexAtLeast", "(J)I"⟩ : MethodName)) hown (mvT hZ (hw _ (List.mem_of_getElem? (i := 101) rfl))) (mvT hZ (hw _ (List.mem_of_getElem? (i := 102) rfl))) (notFace_of_selects (args := #[]) (mvT hZ (hw _ (List.mem_of_getElem? (i := 104) rfl)))) (mvT hZ (hw _ (List.mem_of_getElem? (i := 104) rfl))) (mvT hZ (hw _ (List.mem_of_getElem? (i := 103) rfl))) (by decide) (backOf (W := 0) (own_rm10_0 l Z a0 hw [] b997 (own_M0_133 p1 p2 p3 q4 p5) b1066_0 k1066_0 T1066.heap n0 Z1073 Q1066_0 Q1066_1 Q1066_3) hZ (hw _ (List.mem_of_getElem? (i := 105) rfl)) (hw _ (List.mem_of_getElem? (i := 10) rfl)) (by decide) (by decide)) q1074a q1074c (g := (mkF m 219 #[.val (.int p0), .val (.int p1), .val (.int p2), .val (.int p3), .val (.long q4), .second, .val (.int p5), .val (.int (own_F1 p1 (own_F1 p2 p3))), .val (.int (own_F2 p1 (own_F2 p2 p3))), .val (.int (own_F2 (own_F1 p1 p2) (own_F1 (own_F2 p1 p2) p3))), .val (.int (0 : Int32)), .val (.ref b982), .val (.int (p5 &&& (15 : Int32))), .val (.long (own_M0_133 p1 p2 p3 q4 p5)), .second, .val (.ref b997), (if (p5 &&& (15 : Int32)) < (9 : Int32) then (Slot.val (.int (own_M0_144 p1 p2 p3 p5))) else (Slot.unset)), .unset] [(.long (own_M0_133 p1 p2 p3 q4 p5)), (.ref b997)])) rfl (by rw [hml]; rfl) (Steps.refl _) (argsL := [(.long (own_M0_133 p1 p2 p3 q4 p5))]) (rest := []) (lenOf own_pd4 rfl) rfl (by show 2 * 0 + _ ≤ _; exact Nat.le_of_eq rfl) (hb hby at_219) (fun _ _ => ⟨rfl, rfl, (by decide : 12 + 0 ≤ _), (by decide : 542 + 0 ≤ _)⟩))
    obtain ⟨-, -, e1074⟩ := hQ1074
    refine own_via st1074 ?_
    show own_End p e below s _ _ _ (T1074.setTop (mkF m 222 #[.val (.int p0), .val (.int p1), .val (.int p2), .val (.int p3), .val (.long q4), .second, .val (.int p5), .val (.int (own_F1 p1 (own_F1 p2 p3))), .val (.int (own_F2 p1 (own_F2 p2 p3))), .val (.int (own_F2 (own_F1 p1 p2) (own_F1 (own_F2 p1 p2) p3))), .val (.int (0 : Int32)), .val (.ref b982), .val (.int (p5 &&& (15 : Int32))), .val (.long (own_M0_133 p1 p2 p3 q4 p5)), .second, .val (.ref b997), (if (p5 &&& (15 : Int32)) < (9 : Int32) then (Slot.val (.int (own_M0_144 p1 p2 p3 p5))) else (Slot.unset)), .unset] [(.int (0 : Int32))])) ReturnedEndW
    refine own_istore X1074 hx (hb hby at_222) (l' := #[.val (.int p0), .val (.int p1), .val (.int p2), .val (.int p3), .val (.long q4), .second, .val (.int p5), .val (.int (own_F1 p1 (own_F1 p2 p3))), .val (.int (own_F2 p1 (own_F2 p2 p3))), .val (.int (own_F2 (own_F1 p1 p2) (own_F1 (own_F2 p1 p2) p3))), .val (.int (0 : Int32)), .val (.ref b982), .val (.int (p5 &&& (15 : Int32))), .val (.long (own_M0_133 p1 p2 p3 q4 p5)), .second, .val (.ref b997), .val (.int (0 : Int32)), .unset]) (Or.elim (Classical.em ((p5 &&& (15 : Int32)) < (9 : Int32))) (fun hz0 => (by simp only [if_pos hz0]; rfl)) (fun hz0 => (by simp only [if_neg hz0]; rfl))) (q := 224) rfl ?_
    refine own_iconst X1074 hx (hb hby at_224) (z := 0) rfl (q := 225) rfl ?_
    refine own_istore X1074 hx (hb hby at_225) (l' := #[.val (.int p0), .val (.int p1), .val (.int p2), .val (.int p3), .val (.long q4), .second, .val (.int p5), .val (.int (own_F1 p1 (own_F1 p2 p3))), .val (.int (own_F2 p1 (own_F2 p2 p3))), .val (.int (own_F2 (own_F1 p1 p2) (own_F1 (own_F2 p1 p2) p3))), .val (.int (0 : Int32)), .val (.ref b982), .val (.int (p5 &&& (15 : Int32))), .val (.long (own_M0_133 p1 p2 p3 q4 p5)), .second, .val (.ref b997), .val (.int (0 : Int32)), .val (.int (0 : Int32))]) rfl (q := 227) rfl ?_
    refine own_iload X1074 hx (hb hby at_227) rfl (q := 229) rfl ?_
    refine own_ifY X1074 hx (hb hby at_229) (flt (by decide : ¬ ((0 : Int32) < (0 : Int32)))).2.2.2 (q := 246) (by decide) (by decide) ?_
    refine own_iload X1074 hx (hb hby at_246) rfl (q := 248) rfl ?_
    refine own_iconst X1074 hx (hb hby at_248) (z := 1) rfl (q := 249) rfl ?_
    refine own_icY X1074 hx (hb hby at_249) (flt (by decide : ¬ ((1 : Int32) < (0 : Int32)))).2.2.2 (q := 266) (by decide) (by decide) ?_
    refine own_iload X1074 hx (hb hby at_266) rfl (q := 268) rfl ?_
    refine own_iconst X1074 hx (hb hby at_268) (z := 2) rfl (q := 269) rfl ?_
    refine own_icY X1074 hx (hb hby at_269) (flt (by decide : ¬ ((2 : Int32) < (0 : Int32)))).2.2.2 (q := 286) (by decide) (by decide) ?_
    refine own_iload X1074 hx (hb hby at_286) rfl (q := 288) rfl ?_
    refine own_iload X1074 hx (hb hby at_288) rfl (q := 290) rfl ?_
    refine own_icN X1074 hx (hb hby at_290) (teq (by decide : ((0 : Int32) = (0 : Int32)))).2 (q := 293) rfl ?_
    refine own_iconst X1074 hx (hb hby at_293) (z := 1) rfl (q := 294) rfl ?_
    refine own_goto X1074 hx (hb hby at_294) (q := 298) (by decide) (by decide) ?_
    refine own_retNW X1074 hx hS1002 (by rw [e1074]; exact kZ1073) (t := .boolean) (by simp) Bd.returns Bd.notSynchronized (by decide) (by decide) (hb hby at_298) ?_
    show own_Q0 Z p0 p1 p2 p3 q4 p5 sa h0 n0 _ T1074.heap _
    exact ⟨rfl, N1074⟩
  · by_cases hz1076 : (p0 &&& (3 : Int32)) = (1 : Int32)
    · rw [hz1076]
      refine own_istore X980 hx (hb hby at_44) (l' := #[.val (.int p0), .val (.int p1), .val (.int p2), .val (.int p3), .val (.long q4), .second, .val (.int p5), .val (.int (own_F1 p1 (own_F1 p2 p3))), .val (.int (own_F2 p1 (own_F2 p2 p3))), .val (.int (own_F2 (own_F1 p1 p2) (own_F1 (own_F2 p1 p2) p3))), .val (.int (1 : Int32)), .unset, .unset, .unset, .unset, .unset, .unset, .unset]) rfl (q := 46) rfl ?_
      refine own_iload X980 hx (hb hby at_46) rfl (q := 48) rfl ?_
      refine own_ifY X980 hx (hb hby at_48) (feq (by decide : ¬ ((1 : Int32) = (0 : Int32)))).2 (q := 59) (by decide) (by decide) ?_
      refine own_iload X980 hx (hb hby at_59) rfl (q := 61) rfl ?_
      refine own_iconst X980 hx (hb hby at_61) (z := 1) rfl (q := 62) rfl ?_
      refine own_icN X980 hx (hb hby at_62) (teq (by decide : ((1 : Int32) = (1 : Int32)))).2 (q := 65) rfl ?_
      refine own_iconst X980 hx (hb hby at_65) (z := 1) rfl (q := 66) rfl ?_
      obtain ⟨T1077, h1077, k1077, X1077, e1077, E1077, A1077, Ex1077, st1077⟩ := newPE X980 hx hZ (hw _ (List.mem_of_getElem? (i := 7) rfl)) e980 (g := (mkF m 66 #[.val (.int p0), .val (.int p1), .val (.int p2), .val (.int p3), .val (.long q4), .second, .val (.int p5), .val (.int (own_F1 p1 (own_F1 p2 p3))), .val (.int (own_F2 p1 (own_F2 p2 p3))), .val (.int (own_F2 (own_F1 p1 p2) (own_F1 (own_F2 p1 p2) p3))), .val (.int (1 : Int32)), .unset, .unset, .unset, .unset, .unset, .unset, .unset] [(.int (1 : Int32))])) rfl (hb hby at_66) rfl (by decide) (cap := 1) (by decide) (by decide) (by decide) (by decide) (ad := "[I") rfl
      obtain ⟨b1077, g1077⟩ : ∃ z, z = h0.size := ⟨_, rfl⟩
      have g_b1077 : n0 ≤ b1077 := Nat.le_trans Z0 (Nat.le_of_eq g1077.symm)
      have Z1078 := Nat.le_trans Z0 E1077.1
      rw [← g1077] at A1077 Ex1077 st1077
      have S_dc_1079 := S_dc.ext E1077
      have V_b1077 : Arv Z h1077 b1077 k1077 .int (1 : Int32) [(.int (0 : Int32))] (.int (0 : Int32)) := (Arv.new A1077 (by decide)).pad (pad_rep [] (.int (0 : Int32)) 1)
      refine own_back st1077 ?_
      show own_End p e below s _ _ _ (T1077.setTop (mkF m 68 #[.val (.int p0), .val (.int p1), .val (.int p2), .val (.int p3), .val (.long q4), .second, .val (.int p5), .val (.int (own_F1 p1 (own_F1 p2 p3))), .val (.int (own_F2 p1 (own_F2 p2 p3))), .val (.int (own_F2 (own_F1 p1 p2) (own_F1 (own_F2 p1 p2) p3))), .val (.int (1 : Int32)), .unset, .unset, .unset, .unset, .unset, .unset, .unset] [(.ref b1077)])) ReturnedEndW
      refine own_dup X1077 hx (hb hby at_68) rfl (q := 69) rfl ?_
      refine own_iconst X1077 hx (hb hby at_69) (z := 0) rfl (q := 70) rfl ?_
      refine own_iload X1077 hx (hb hby at_70) rfl (q := 72) rfl ?_
      obtain ⟨cl1080, Ar1080, q1080, S1080, N1080v, H1080, G1080⟩ := id V_b1077
      have hin1080 : ¬ ((0 : Int32) < 0 ∨ cl1080.slots.size ≤ ((0 : Int32)).toNatClampNeg) := inb_of S1080 ⟨by decide, by decide⟩
      obtain ⟨T1080, h1080, X1080, e1080, W1080, st1080⟩ := stI X1077 hx hZ e1077 Ar1080 (j := (0 : Int32)) hin1080 (g := (mkF m 72 #[.val (.int p0), .val (.int p1), .val (.int p2), .val (.int p3), .val (.long q4), .second, .val (.int p5), .val (.int (own_F1 p1 (own_F1 p2 p3))), .val (.int (own_F2 p1 (own_F2 p2 p3))), .val (.int (own_F2 (own_F1 p1 p2) (own_F1 (own_F2 p1 p2) p3))), .val (.int (1 : Int32)), .unset, .unset, .unset, .unset, .unset, .unset, .unset] [(.int (own_F1 p1 (own_F1 p2 p3))), (.int (0 : Int32)), (.ref b1077), (.ref b1077)])) rfl rfl (hb hby at_72)
      have V_b1077_1080 : Arv Z h1080 b1077 k1077 .int (1 : Int32) [(.int (own_F1 p1 (own_F1 p2 p3)))] (.int (0 : Int32)) := Arv.set Ar1080 q1080 S1080 N1080v H1080 G1080 rfl W1080 0 rfl (Nat.le_of_ble_eq_true rfl)
      have S_dc_1081 := S_dc_1079.wr W1080
      have Ex1077_1082 := Ex1077.wr W1080
      have Z1083 := Nat.le_trans Z1078 (Keep.of_wr W1080).1
      obtain ⟨L1080, X1080, N1080⟩ := own_gl X1080 (Fr.snoc X1080 N980 g_b1077)
      refine own_back st1080 ?_
      show own_End p e below s _ _ _ (T1080.setTop (mkF m 73 #[.val (.int p0), .val (.int p1), .val (.int p2), .val (.int p3), .val (.long q4), .second, .val (.int p5), .val (.int (own_F1 p1 (own_F1 p2 p3))), .val (.int (own_F2 p1 (own_F2 p2 p3))), .val (.int (own_F2 (own_F1 p1 p2) (own_F1 (own_F2 p1 p2) p3))), .val (.int (1 : Int32)), .unset, .unset, .unset, .unset, .unset, .unset, .unset] [(.ref b1077)])) ReturnedEndW
      refine own_astore X1080 hx (hb hby at_73) rfl (l' := #[.val (.int p0), .val (.int p1), .val (.int p2), .val (.int p3), .val (.long q4), .second, .val (.int p5), .val (.int (own_F1 p1 (own_F1 p2 p3))), .val (.int (own_F2 p1 (own_F2 p2 p3))), .val (.int (own_F2 (own_F1 p1 p2) (own_F1 (own_F2 p1 p2) p3))), .val (.int (1 : Int32)), .val (.ref b1077), .unset, .unset, .unset, .unset, .unset, .unset]) rfl (q := 75) rfl ?_
      refine own_goto X1080 hx (hb hby at_75) (q := 122) (by decide) (by decide) ?_
      refine own_iload X1080 hx (hb hby at_122) rfl (q := 124) rfl ?_
      refine own_bipush X1080 hx (hb hby at_124) (z := 15) rfl (q := 126) rfl ?_
      refine own_iand X1080 hx (hb hby at_126) (q := 127) rfl ?_
      refine own_istore X1080 hx (hb hby at_127) (l' := #[.val (.int p0), .val (.int p1), .val (.int p2), .val (.int p3), .val (.long q4), .second, .val (.int p5), .val (.int (own_F1 p1 (own_F1 p2 p3))), .val (.int (own_F2 p1 (own_F2 p2 p3))), .val (.int (own_F2 (own_F1 p1 p2) (own_F1 (own_F2 p1 p2) p3))), .val (.int (1 : Int32)), .val (.ref b1077), .val (.int (p5 &&& (15 : Int32))), .unset, .unset, .unset, .unset, .unset]) rfl (q := 129) rfl ?_
      refine own_iload X1080 hx (hb hby at_129) rfl (q := 131) rfl ?_
      refine own_bipush X1080 hx (hb hby at_131) (z := 9) rfl (q := 133) rfl ?_
      suffices J1095 : own_End p e below s (own_Q0 Z p0 p1 p2 p3 q4 p5 sa h0 n0) room_1.cells room_1.slots (T1080.setTop (mkF m 187 #[.val (.int p0), .val (.int p1), .val (.int p2), .val (.int p3), .val (.long q4), .second, .val (.int p5), .val (.int (own_F1 p1 (own_F1 p2 p3))), .val (.int (own_F2 p1 (own_F2 p2 p3))), .val (.int (own_F2 (own_F1 p1 p2) (own_F1 (own_F2 p1 p2) p3))), .val (.int (1 : Int32)), .val (.ref b1077), .val (.int (p5 &&& (15 : Int32))), .val (.long (own_M0_133 p1 p2 p3 q4 p5)), .second, (if (p5 &&& (15 : Int32)) < (9 : Int32) then (Slot.val (.int ((p5 &&& (15 : Int32)) / (3 : Int32)))) else (Slot.unset)), (if (p5 &&& (15 : Int32)) < (9 : Int32) then (Slot.val (.int (own_M0_144 p1 p2 p3 p5))) else (Slot.unset)), .unset] [])) ReturnedEndW by
        by_cases hc133_1084 : (p5 &&& (15 : Int32)) < (9 : Int32)
        · refine own_icN X1080 hx (hb hby at_133) (tlt hc133_1084).2.1 (q := 136) rfl ?_
          refine own_iload X1080 hx (hb hby at_136) rfl (q := 138) rfl ?_
          refine own_iconst X1080 hx (hb hby at_138) (z := 3) rfl (q := 139) rfl ?_
          refine own_idiv X1080 hx (hb hby at_139) (by decide) (q := 140) rfl ?_
          refine own_istore X1080 hx (hb hby at_140) (l' := #[.val (.int p0), .val (.int p1), .val (.int p2), .val (.int p3), .val (.long q4), .second, .val (.int p5), .val (.int (own_F1 p1 (own_F1 p2 p3))), .val (.int (own_F2 p1 (own_F2 p2 p3))), .val (.int (own_F2 (own_F1 p1 p2) (own_F1 (own_F2 p1 p2) p3))), .val (.int (1 : Int32)), .val (.ref b1077), .val (.int (p5 &&& (15 : Int32))), .unset, .unset, .val (.int ((p5 &&& (15 : Int32)) / (3 : Int32))), .unset, .unset]) rfl (q := 142) rfl ?_
          refine own_iload X1080 hx (hb hby at_142) rfl (q := 144) rfl ?_
          suffices J1092 : own_End p e below s (own_Q0 Z p0 p1 p2 p3 q4 p5 sa h0 n0) room_1.cells room_1.slots (T1080.setTop (mkF m 165 #[.val (.int p0), .val (.int p1), .val (.int p2), .val (.int p3), .val (.long q4), .second, .val (.int p5), .val (.int (own_F1 p1 (own_F1 p2 p3))), .val (.int (own_F2 p1 (own_F2 p2 p3))), .val (.int (own_F2 (own_F1 p1 p2) (own_F1 (own_F2 p1 p2) p3))), .val (.int (1 : Int32)), .val (.ref b1077), .val (.int (p5 &&& (15 : Int32))), .unset, .unset, .val (.int ((p5 &&& (15 : Int32)) / (3 : Int32))), .unset, .unset] [(.int (own_M0_144 p1 p2 p3 p5))])) ReturnedEndW by
            by_cases hc144_1085 : ((p5 &&& (15 : Int32)) / (3 : Int32)) = (0 : Int32)
            · refine own_ifN X1080 hx (hb hby at_144) (teq hc144_1085).2 (q := 147) rfl ?_
              refine own_iload X1080 hx (hb hby at_147) rfl (q := 149) rfl ?_
              refine own_goto X1080 hx (hb hby at_149) (q := 165) (by decide) (by decide) ?_
              simp only [own_M0_144, if_pos hc144_1085] at J1092
              exact J1092
            · refine own_ifY X1080 hx (hb hby at_144) (feq hc144_1085).2 (q := 152) (by decide) (by decide) ?_
              refine own_iload X1080 hx (hb hby at_152) rfl (q := 154) rfl ?_
              refine own_iconst X1080 hx (hb hby at_154) (z := 1) rfl (q := 155) rfl ?_
              suffices J1090 : own_End p e below s (own_Q0 Z p0 p1 p2 p3 q4 p5 sa h0 n0) room_1.cells room_1.slots (T1080.setTop (mkF m 165 #[.val (.int p0), .val (.int p1), .val (.int p2), .val (.int p3), .val (.long q4), .second, .val (.int p5), .val (.int (own_F1 p1 (own_F1 p2 p3))), .val (.int (own_F2 p1 (own_F2 p2 p3))), .val (.int (own_F2 (own_F1 p1 p2) (own_F1 (own_F2 p1 p2) p3))), .val (.int (1 : Int32)), .val (.ref b1077), .val (.int (p5 &&& (15 : Int32))), .unset, .unset, .val (.int ((p5 &&& (15 : Int32)) / (3 : Int32))), .unset, .unset] [(.int (own_M0_155 p1 p2 p3 p5))])) ReturnedEndW by
                by_cases hc155_1087 : ((p5 &&& (15 : Int32)) / (3 : Int32)) = (1 : Int32)
                · refine own_icN X1080 hx (hb hby at_155) (teq hc155_1087).2 (q := 158) rfl ?_
                  refine own_iload X1080 hx (hb hby at_158) rfl (q := 160) rfl ?_
                  refine own_goto X1080 hx (hb hby at_160) (q := 165) (by decide) (by decide) ?_
                  simp only [own_M0_155, if_pos hc155_1087] at J1090
                  exact J1090
                · refine own_icY X1080 hx (hb hby at_155) (feq hc155_1087).2 (q := 163) (by decide) (by decide) ?_
                  refine own_iload X1080 hx (hb hby at_163) rfl (q := 165) rfl ?_
                  simp only [own_M0_155, if_neg hc155_1087] at J1090
                  exact J1090
              simp only [own_M0_144, if_neg hc144_1085] at J1092
              exact J1092
          refine own_istore X1080 hx (hb hby at_165) (l' := #[.val (.int p0), .val (.int p1), .val (.int p2), .val (.int p3), .val (.long q4), .second, .val (.int p5), .val (.int (own_F1 p1 (own_F1 p2 p3))), .val (.int (own_F2 p1 (own_F2 p2 p3))), .val (.int (own_F2 (own_F1 p1 p2) (own_F1 (own_F2 p1 p2) p3))), .val (.int (1 : Int32)), .val (.ref b1077), .val (.int (p5 &&& (15 : Int32))), .unset, .unset, .val (.int ((p5 &&& (15 : Int32)) / (3 : Int32))), .val (.int (own_M0_144 p1 p2 p3 p5)), .unset]) rfl (q := 167) rfl ?_
          refine own_iload X1080 hx (hb hby at_167) rfl (q := 169) rfl ?_
          refine own_i2l X1080 hx (hb hby at_169) (q := 170) rfl ?_
          refine own_iload X1080 hx (hb hby at_170) rfl (q := 172) rfl ?_
          refine own_iconst X1080 hx (hb hby at_172) (z := 3) rfl (q := 173) rfl ?_
          refine own_irem X1080 hx (hb hby at_173) (by decide) (q := 174) rfl ?_
          refine own_i2l X1080 hx (hb hby at_174) (q := 175) rfl ?_
          refine own_ladd X1080 hx (hb hby at_175) (q := 176) rfl ?_
          refine own_lconst X1080 hx (hb hby at_176) (z := 1) rfl (q := 177) rfl ?_
          refine own_lsub X1080 hx (hb hby at_177) (q := 178) rfl ?_
          refine own_lstore X1080 hx (hb hby at_178) (l' := #[.val (.int p0), .val (.int p1), .val (.int p2), .val (.int p3), .val (.long q4), .second, .val (.int p5), .val (.int (own_F1 p1 (own_F1 p2 p3))), .val (.int (own_F2 p1 (own_F2 p2 p3))), .val (.int (own_F2 (own_F1 p1 p2) (own_F1 (own_F2 p1 p2) p3))), .val (.int (1 : Int32)), .val (.ref b1077), .val (.int (p5 &&& (15 : Int32))), .val (.long ((((own_M0_144 p1 p2 p3 p5).toInt64) + (((p5 &&& (15 : Int32)) % (3 : Int32)).toInt64)) - (1 : Int64))), .second, .val (.int ((p5 &&& (15 : Int32)) / (3 : Int32))), .val (.int (own_M0_144 p1 p2 p3 p5)), .unset]) rfl (q := 180) rfl ?_
          refine own_goto X1080 hx (hb hby at_180) (q := 187) (by decide) (by decide) ?_
          simp only [own_M0_133, if_pos hc133_1084] at J1095
          exact J1095
        · refine own_icY X1080 hx (hb hby at_133) (flt hc133_1084).2.1 (q := 183) (by decide) (by decide) ?_
          refine own_lload X1080 hx (hb hby at_183) rfl (q := 185) rfl ?_
          refine own_lstore X1080 hx (hb hby at_185) (l' := #[.val (.int p0), .val (.int p1), .val (.int p2), .val (.int p3), .val (.long q4), .second, .val (.int p5), .val (.int (own_F1 p1 (own_F1 p2 p3))), .val (.int (own_F2 p1 (own_F2 p2 p3))), .val (.int (own_F2 (own_F1 p1 p2) (own_F1 (own_F2 p1 p2) p3))), .val (.int (1 : Int32)), .val (.ref b1077), .val (.int (p5 &&& (15 : Int32))), .val (.long q4), .second, .unset, .unset, .unset]) rfl (q := 187) rfl ?_
          simp only [own_M0_133, if_neg hc133_1084] at J1095
          exact J1095
      obtain ⟨T1096, h1096, X1096, e1096, E1096, A1096, D1096, -, st1096⟩ := newO X1080 hx hZ hown (hw _ (List.mem_of_getElem? (i := 8) rfl)) (hw _ (List.mem_of_getElem? (i := 9) rfl)) (hw _ (List.mem_of_getElem? (i := 10) rfl)) e1080 (g := (mkF m 187 #[.val (.int p0), .val (.int p1), .val (.int p2), .val (.int p3), .val (.long q4), .second, .val (.int p5), .val (.int (own_F1 p1 (own_F1 p2 p3))), .val (.int (own_F2 p1 (own_F2 p2 p3))), .val (.int (own_F2 (own_F1 p1 p2) (own_F1 (own_F2 p1 p2) p3))), .val (.int (1 : Int32)), .val (.ref b1077), .val (.int (p5 &&& (15 : Int32))), .val (.long (own_M0_133 p1 p2 p3 q4 p5)), .second, (if (p5 &&& (15 : Int32)) < (9 : Int32) then (Slot.val (.int ((p5 &&& (15 : Int32)) / (3 : Int32)))) else (Slot.unset)), (if (p5 &&& (15 : Int32)) < (9 : Int32) then (Slot.val (.int (own_M0_144 p1 p2 p3 p5))) else (Slot.unset)), .unset] [])) rfl (hb hby at_187) (by decide) (by decide)
      obtain ⟨b1096, g1096⟩ : ∃ z, z = h1080.size := ⟨_, rfl⟩
      have ne_b1077_b1096 : b1077 ≠ b1096 := Nat.ne_of_lt (Nat.lt_of_lt_of_le Ex1077_1082.lt (Nat.le_of_eq g1096.symm))
      have g_b1096 : n0 ≤ b1096 := Nat.le_trans Z1083 (Nat.le_of_eq g1096.symm)
      have Z1097 := Nat.le_trans Z1083 E1096.1
      rw [← g1096] at A1096 D1096 st1096
      have S_dc_1098 := S_dc_1081.ext E1096
      have Ex1077_1099 := Ex1077_1082.ext E1096
      have V_b1077_1100 := V_b1077_1080.ext E1096
      have F_b1096_constraints : Fld Z h1096 b1096 "com/example/arcwise/arcwise/network/Variable" "constraints" "Ljava/util/List;" .null := D1096 (Or.inr (hw _ (List.mem_of_getElem? (i := 65) rfl))) (ty := (.object "java/util/List")) (by decide)
      have F_b1096_index : Fld Z h1096 b1096 "com/example/arcwise/arcwise/network/Variable" "index" "I" (.int (0 : Int32)) := D1096 (Or.inr (hw _ (List.mem_of_getElem? (i := 67) rfl))) (ty := .int) (by decide)
      have F_b1096_name : Fld Z h1096 b1096 "com/example/arcwise/arcwise/network/Variable" "name" "Ljava/lang/String;" .null := D1096 (Or.inr (hw _ (List.mem_of_getElem? (i := 69) rfl))) (ty := (.object "java/lang/String")) (by decide)
      have F_b1096_values : Fld Z h1096 b1096 "com/example/arcwise/arcwise/network/Variable" "values" "[I" .null := D1096 (Or.inr (hw _ (List.mem_of_getElem? (i := 80) rfl))) (ty := (.array .int)) (by decide)
      have F_b1096_domain : Fld Z h1096 b1096 "com/example/arcwise/arcwise/network/Variable" "domain" "Lcom/example/arcwise/arcwise/network/Domain;" .null := D1096 (Or.inr (hw _ (List.mem_of_getElem? (i := 98) rfl))) (ty := (.object "com/example/arcwise/arcwise/network/Domain")) (by decide)
      have F_b1096_assignmentListeners : Fld Z h1096 b1096 "com/example/arcwise/arcwise/network/Variable" "assignmentListeners" "Ljava/util/List;" .null := D1096 (Or.inr (hw _ (List.mem_of_getElem? (i := 100) rfl))) (ty := (.object "java/util/List")) (by decide)
      refine own_back st1096 ?_
      show own_End p e below s _ _ _ (T1096.setTop (mkF m 190 #[.val (.int p0), .val (.int p1), .val (.int p2), .val (.int p3), .val (.long q4), .second, .val (.int p5), .val (.int (own_F1 p1 (own_F1 p2 p3))), .val (.int (own_F2 p1 (own_F2 p2 p3))), .val (.int (own_F2 (own_F1 p1 p2) (own_F1 (own_F2 p1 p2) p3))), .val (.int (1 : Int32)), .val (.ref b1077), .val (.int (p5 &&& (15 : Int32))), .val (.long (own_M0_133 p1 p2 p3 q4 p5)), .second, (if (p5 &&& (15 : Int32)) < (9 : Int32) then (Slot.val (.int ((p5 &&& (15 : Int32)) / (3 : Int32)))) else (Slot.unset)), (if (p5 &&& (15 : Int32)) < (9 : Int32) then (Slot.val (.int (own_M0_144 p1 p2 p3 p5))) else (Slot.unset)), .unset] [(.ref b1096)])) ReturnedEndW
      refine own_dup X1096 hx (hb hby at_190) rfl (q := 191) rfl ?_
      refine own_iconst X1096 hx (hb hby at_191) (z := 0) rfl (q := 192) rfl ?_
      obtain ⟨as1101, T1101, h1101, k11101, X1101, e1101, E1101, hS1101, hk1101, hZ, hown, -, -, st1101⟩ := ldcOH (EL := []) (s := s) (vm0 := s.vm) X1096 hx hZ hown (hw _ (List.mem_of_getElem? (i := 11) rfl)) (own_sat hw) e1096 own_since0 (Nat.zero_le _) EW.nil own_chv0 (g := (mkF m 192 #[.val (.int p0), .val (.int p1), .val (.int p2), .val (.int p3), .val (.long q4), .second, .val (.int p5), .val (.int (own_F1 p1 (own_F1 p2 p3))), .val (.int (own_F2 p1 (own_F2 p2 p3))), .val (.int (own_F2 (own_F1 p1 p2) (own_F1 (own_F2 p1 p2) p3))), .val (.int (1 : Int32)), .val (.ref b1077), .val (.int (p5 &&& (15 : Int32))), .val (.long (own_M0_133 p1 p2 p3 q4 p5)), .second, (if (p5 &&& (15 : Int32)) < (9 : Int32) then (Slot.val (.int ((p5 &&& (15 : Int32)) / (3 : Int32)))) else (Slot.unset)), (if (p5 &&& (15 : Int32)) < (9 : Int32) then (Slot.val (.int (own_M0_144 p1 p2 p3 p5))) else (Slot.unset)), .unset] [(.int (0 : Int32)), (.ref b1096), (.ref b1096)])) rfl (hb hby at_192) (n := 4) (by decide) (by decide) (by decide) (by decide)
      have Z1102 := Nat.le_trans Z1097 E1101.1
      have S_dc_1103 := S_dc_1098.ext E1101
      have Ex1077_1104 := Ex1077_1099.ext E1101
      have V_b1077_1105 := V_b1077_1100.ext E1101
      have A1096_1106 := A1096.ext E1101
      have F_b1096_constraints_1107 := F_b1096_constraints.ext E1101
      have F_b1096_index_1108 := F_b1096_index.ext E1101
      have F_b1096_name_1109 := F_b1096_name.ext E1101
      have F_b1096_values_1110 := F_b1096_values.ext E1101
      have F_b1096_domain_1111 := F_b1096_domain.ext E1101
      have F_b1096_assignmentListeners_1112 := F_b1096_assignmentListeners.ext E1101
      refine own_back st1101 ?_
      show own_End p e below s _ _ _ (T1101.setTop (mkF m 194 #[.val (.int p0), .val (.int p1), .val (.int p2), .val (.int p3), .val (.long q4), .second, .val (.int p5), .val (.int (own_F1 p1 (own_F1 p2 p3))), .val (.int (own_F2 p1 (own_F2 p2 p3))), .val (.int (own_F2 (own_F1 p1 p2) (own_F1 (own_F2 p1 p2) p3))), .val (.int (1 : Int32)), .val (.ref b1077), .val (.int (p5 &&& (15 : Int32))), .val (.long (own_M0_133 p1 p2 p3 q4 p5)), .second, (if (p5 &&& (15 : Int32)) < (9 : Int32) then (Slot.val (.int ((p5 &&& (15 : Int32)) / (3 : Int32)))) else (Slot.unset)), (if (p5 &&& (15 : Int32)) < (9 : Int32) then (Slot.val (.int (own_M0_144 p1 p2 p3 p5))) else (Slot.unset)), .unset] [(.ref as1101), (.int (0 : Int32)), (.ref b1096), (.ref b1096)])) ReturnedEndW
      refine own_aload X1101 hx (hb hby at_194) rfl rfl (q := 196) rfl ?_
      obtain ⟨T1113, h1113, X1113, e1113, E1113, A1113, D1113, -, st1113⟩ := newO X1101 hx hZ hown (hw _ (List.mem_of_getElem? (i := 19) rfl)) (hw _ (List.mem_of_getElem? (i := 20) rfl)) (hw _ (List.mem_of_getElem? (i := 21) rfl)) e1101 (g := (mkF m 196 #[.val (.int p0), .val (.int p1), .val (.int p2), .val (.int p3), .val (.long q4), .second, .val (.int p5), .val (.int (own_F1 p1 (own_F1 p2 p3))), .val (.int (own_F2 p1 (own_F2 p2 p3))), .val (.int (own_F2 (own_F1 p1 p2) (own_F1 (own_F2 p1 p2) p3))), .val (.int (1 : Int32)), .val (.ref b1077), .val (.int (p5 &&& (15 : Int32))), .val (.long (own_M0_133 p1 p2 p3 q4 p5)), .second, (if (p5 &&& (15 : Int32)) < (9 : Int32) then (Slot.val (.int ((p5 &&& (15 : Int32)) / (3 : Int32)))) else (Slot.unset)), (if (p5 &&& (15 : Int32)) < (9 : Int32) then (Slot.val (.int (own_M0_144 p1 p2 p3 p5))) else (Slot.unset)), .unset] [(.ref b1077), (.ref as1101), (.int (0 : Int32)), (.ref b1096), (.ref b1096)])) rfl (hb hby at_196) (by decide) (by decide)
      obtain ⟨b1113, g1113⟩ : ∃ z, z = h1101.size := ⟨_, rfl⟩
      have ne_b1077_b1113 : b1077 ≠ b1113 := Nat.ne_of_lt (Nat.lt_of_lt_of_le Ex1077_1104.lt (Nat.le_of_eq g1113.symm))
      have ne_b1096_b1113 : b1096 ≠ b1113 := Nat.ne_of_lt (Nat.lt_of_lt_of_le A1096_1106.lt (Nat.le_of_eq g1113.symm))
      have g_b1113 : n0 ≤ b1113 := Nat.le_trans Z1102 (Nat.le_of_eq g1113.symm)
      have Z1114 := Nat.le_trans Z1102 E1113.1
      have kZ1114 := Nat.le_trans hk1101 E1113.1
      rw [← g1113] at A1113 D1113 st1113
      have S_dc_1115 := S_dc_1103.ext E1113
      have Ex1077_1116 := Ex1077_1104.ext E1113
      have V_b1077_1117 := V_b1077_1105.ext E1113
      have A1096_1118 := A1096_1106.ext E1113
      have F_b1096_constraints_1119 := F_b1096_constraints_1107.ext E1113
      have F_b1096_index_1120 := F_b1096_index_1108.ext E1113
      have F_b1096_name_1121 := F_b1096_name_1109.ext E1113
      have F_b1096_values_1122 := F_b1096_values_1110.ext E1113
      have F_b1096_domain_1123 := F_b1096_domain_1111.ext E1113
      have F_b1096_assignmentListeners_1124 := F_b1096_assignmentListeners_1112.ext E1113
      have F_b1113_domains : Fld Z h1113 b1113 "com/example/arcwise/arcwise/network/Trail" "domains" "[Lcom/example/arcwise/arcwise/network/Domain;" .null := D1113 (Or.inl (hw _ (List.mem_of_getElem? (i := 31) rfl))) (ty := (.array (.object "com/example/arcwise/arcwise/network/Domain"))) (by decide)
      have F_b1113_indexes : Fld Z h1113 b1113 "com/example/arcwise/arcwise/network/Trail" "indexes" "[I" .null := D1113 (Or.inl (hw _ (List.mem_of_getElem? (i := 33) rfl))) (ty := (.array .int)) (by decide)
      refine own_back st1113 ?_
      show own_End p e below s _ _ _ (T1113.setTop (mkF m 199 #[.val (.int p0), .val (.int p1), .val (.int p2), .val (.int p3), .val (.long q4), .second, .val (.int p5), .val (.int (own_F1 p1 (own_F1 p2 p3))), .val (.int (own_F2 p1 (own_F2 p2 p3))), .val (.int (own_F2 (own_F1 p1 p2) (own_F1 (own_F2 p1 p2) p3))), .val (.int (1 : Int32)), .val (.ref b1077), .val (.int (p5 &&& (15 : Int32))), .val (.long (own_M0_133 p1 p2 p3 q4 p5)), .second, (if (p5 &&& (15 : Int32)) < (9 : Int32) then (Slot.val (.int ((p5 &&& (15 : Int32)) / (3 : Int32)))) else (Slot.unset)), (if (p5 &&& (15 : Int32)) < (9 : Int32) then (Slot.val (.int (own_M0_144 p1 p2 p3 p5))) else (Slot.unset)), .unset] [(.ref b1113), (.ref b1077), (.ref as1101), (.int (0 : Int32)), (.ref b1096), (.ref b1096)])) ReturnedEndW
      refine own_dup X1113 hx (hb hby at_199) rfl (q := 200) rfl ?_
      obtain ⟨T1125, Lc1125, L1125, X1125, N1125, hQ1125, st1125⟩ := own_shutV (val := none) (Q := own_Q3 Z b1113 .null .null h1113 n0) (rc := 2) (rs := 512) N1080 (fun _ _ _ q => ⟨q.1, q.2.1⟩) (X1113.specialBack hx (y := (⟨"com/example/arcwise/arcwise/network/Trail", "<init>", "()V"⟩ : MethodName)) rfl hown (mvT hZ (hw _ (List.mem_of_getElem? (i := 22) rfl))) (mvT hZ (hw _ (List.mem_of_getElem? (i := 23) rfl))) (mvT hZ (hw _ (List.mem_of_getElem? (i := 24) rfl))) (by decide) (backOf (W := 6) (own_rm3 l Z a0 hw [] b1113 .null .null h1113 n0 Z1114 A1113 F_b1113_domains F_b1113_indexes g_b1113) hZ (hw _ (List.mem_of_getElem? (i := 24) rfl)) (hw _ (List.mem_of_getElem? (i := 21) rfl)) (by decide) (by decide)) (g := (mkF m 200 #[.val (.int p0), .val (.int p1), .val (.int p2), .val (.int p3), .val (.long q4), .second, .val (.int p5), .val (.int (own_F1 p1 (own_F1 p2 p3))), .val (.int (own_F2 p1 (own_F2 p2 p3))), .val (.int (own_F2 (own_F1 p1 p2) (own_F1 (own_F2 p1 p2) p3))), .val (.int (1 : Int32)), .val (.ref b1077), .val (.int (p5 &&& (15 : Int32))), .val (.long (own_M0_133 p1 p2 p3 q4 p5)), .second, (if (p5 &&& (15 : Int32)) < (9 : Int32) then (Slot.val (.int ((p5 &&& (15 : Int32)) / (3 : Int32)))) else (Slot.unset)), (if (p5 &&& (15 : Int32)) < (9 : Int32) then (Slot.val (.int (own_M0_144 p1 p2 p3 p5))) else (Slot.unset)), .unset] [(.ref b1113), (.ref b1113), (.ref b1077), (.ref as1101), (.int (0 : Int32)), (.ref b1096), (.ref b1096)])) rfl (by rw [hml]; rfl) (Steps.refl _) (a := b1113) (argsL := []) (rest := [(.ref b1113), (.ref b1077), (.ref as1101), (.int (0 : Int32)), (.ref b1096), (.ref b1096)]) (lenOf own_pd0 rfl) rfl (by show 2 * 0 + _ ≤ _; exact Nat.le_of_eq rfl) (hb hby at_200) (fun _ _ => ⟨rfl, e1113, (by decide : 5 + 2 ≤ _), (by decide : 20 + 512 ≤ _)⟩))
      obtain ⟨-, -, K1125, Q1125_0⟩ := hQ1125
      have S_dc_1126 := own_StaK S_dc_1115 K1125 (allS (P := fun o => ∃ C, Exa Z _ o C) ⟨_, A1113⟩ all0)
      have Ex1077_1127 := Ex1077_1116.keep K1125
      have V_b1077_1128 := V_b1077_1117.keep K1125 (ninS ne_b1077_b1113 nin0)
      have A1096_1129 := A1096_1118.keep K1125
      have F_b1096_constraints_1130 := F_b1096_constraints_1119.keep K1125 (ninS ne_b1096_b1113 nin0)
      have F_b1096_index_1131 := F_b1096_index_1120.keep K1125 (ninS ne_b1096_b1113 nin0)
      have F_b1096_name_1132 := F_b1096_name_1121.keep K1125 (ninS ne_b1096_b1113 nin0)
      have F_b1096_values_1133 := F_b1096_values_1122.keep K1125 (ninS ne_b1096_b1113 nin0)
      have F_b1096_domain_1134 := F_b1096_domain_1123.keep K1125 (ninS ne_b1096_b1113 nin0)
      have F_b1096_assignmentListeners_1135 := F_b1096_assignmentListeners_1124.keep K1125 (ninS ne_b1096_b1113 nin0)
      have A1113_1136 := A1113.keep K1125
      have Z1137 := Nat.le_trans Z1114 K1125.1
      have kZ1137 := Nat.le_trans kZ1114 K1125.1
      refine own_via st1125 ?_
      show own_End p e below s _ _ _ (T1125.setTop (mkF m 203 #[.val (.int p0), .val (.int p1), .val (.int p2), .val (.int p3), .val (.long q4), .second, .val (.int p5), .val (.int (own_F1 p1 (own_F1 p2 p3))), .val (.int (own_F2 p1 (own_F2 p2 p3))), .val (.int (own_F2 (own_F1 p1 p2) (own_F1 (own_F2 p1 p2) p3))), .val (.int (1 : Int32)), .val (.ref b1077), .val (.int (p5 &&& (15 : Int32))), .val (.long (own_M0_133 p1 p2 p3 q4 p5)), .second, (if (p5 &&& (15 : Int32)) < (9 : Int32) then (Slot.val (.int ((p5 &&& (15 : Int32)) / (3 : Int32)))) else (Slot.unset)), (if (p5 &&& (15 : Int32)) < (9 : Int32) then (Slot.val (.int (own_M0_144 p1 p2 p3 p5))) else (Slot.unset)), .unset] [(.ref b1113), (.ref b1077), (.ref as1101), (.int (0 : Int32)), (.ref b1096), (.ref b1096)])) ReturnedEndW
      obtain ⟨T1138, h1138, X1138, e1138, E1138, A1138, D1138, -, st1138⟩ := newO X1125 hx hZ hown (hw _ (List.mem_of_getElem? (i := 34) rfl)) (hw _ (List.mem_of_getElem? (i := 35) rfl)) (hw _ (List.mem_of_getElem? (i := 36) rfl)) rfl (g := (mkF m 203 #[.val (.int p0), .val (.int p1), .val (.int p2), .val (.int p3), .val (.long q4), .second, .val (.int p5), .val (.int (own_F1 p1 (own_F1 p2 p3))), .val (.int (own_F2 p1 (own_F2 p2 p3))), .val (.int (own_F2 (own_F1 p1 p2) (own_F1 (own_F2 p1 p2) p3))), .val (.int (1 : Int32)), .val (.ref b1077), .val (.int (p5 &&& (15 : Int32))), .val (.long (own_M0_133 p1 p2 p3 q4 p5)), .second, (if (p5 &&& (15 : Int32)) < (9 : Int32) then (Slot.val (.int ((p5 &&& (15 : Int32)) / (3 : Int32)))) else (Slot.unset)), (if (p5 &&& (15 : Int32)) < (9 : Int32) then (Slot.val (.int (own_M0_144 p1 p2 p3 p5))) else (Slot.unset)), .unset] [(.ref b1113), (.ref b1077), (.ref as1101), (.int (0 : Int32)), (.ref b1096), (.ref b1096)])) rfl (hb hby at_203) (by decide) (by decide)
      obtain ⟨b1138, g1138⟩ : ∃ z, z = T1125.heap.size := ⟨_, rfl⟩
      have ne_b1077_b1138 : b1077 ≠ b1138 := Nat.ne_of_lt (Nat.lt_of_lt_of_le Ex1077_1127.lt (Nat.le_of_eq g1138.symm))
      have ne_b1096_b1138 : b1096 ≠ b1138 := Nat.ne_of_lt (Nat.lt_of_lt_of_le A1096_1129.lt (Nat.le_of_eq g1138.symm))
      have ne_b1113_b1138 : b1113 ≠ b1138 := Nat.ne_of_lt (Nat.lt_of_lt_of_le Q1125_0.lt (Nat.le_of_eq g1138.symm))
      have g_b1138 : n0 ≤ b1138 := Nat.le_trans Z1137 (Nat.le_of_eq g1138.symm)
      have Z1139 := Nat.le_trans Z1137 E1138.1
      have kZ1139 := Nat.le_trans kZ1137 E1138.1
      rw [← g1138] at A1138 D1138 st1138
      have S_dc_1140 := S_dc_1126.ext E1138
      have Ex1077_1141 := Ex1077_1127.ext E1138
      have V_b1077_1142 := V_b1077_1128.ext E1138
      have A1096_1143 := A1096_1129.ext E1138
      have F_b1096_constraints_1144 := F_b1096_constraints_1130.ext E1138
      have F_b1096_index_1145 := F_b1096_index_1131.ext E1138
      have F_b1096_name_1146 := F_b1096_name_1132.ext E1138
      have F_b1096_values_1147 := F_b1096_values_1133.ext E1138
      have F_b1096_domain_1148 := F_b1096_domain_1134.ext E1138
      have F_b1096_assignmentListeners_1149 := F_b1096_assignmentListeners_1135.ext E1138
      have Q1125_1150 := Q1125_0.ext E1138
      have F_b1138_modCount : Fld Z h1138 b1138 "java/util/AbstractList" "modCount" "I" (.int (0 : Int32)) := D1138 (Or.inl (hw _ (List.mem_of_getElem? (i := 54) rfl))) (ty := .int) (by decide)
      have F_b1138_elementData : Fld Z h1138 b1138 "java/util/ArrayList" "elementData" "[Ljava/lang/Object;" .null := D1138 (Or.inl (hw _ (List.mem_of_getElem? (i := 57) rfl))) (ty := (.array (.object "java/lang/Object"))) (by decide)
      refine own_back st1138 ?_
      show own_End p e below s _ _ _ (T1138.setTop (mkF m 206 #[.val (.int p0), .val (.int p1), .val (.int p2), .val (.int p3), .val (.long q4), .second, .val (.int p5), .val (.int (own_F1 p1 (own_F1 p2 p3))), .val (.int (own_F2 p1 (own_F2 p2 p3))), .val (.int (own_F2 (own_F1 p1 p2) (own_F1 (own_F2 p1 p2) p3))), .val (.int (1 : Int32)), .val (.ref b1077), .val (.int (p5 &&& (15 : Int32))), .val (.long (own_M0_133 p1 p2 p3 q4 p5)), .second, (if (p5 &&& (15 : Int32)) < (9 : Int32) then (Slot.val (.int ((p5 &&& (15 : Int32)) / (3 : Int32)))) else (Slot.unset)), (if (p5 &&& (15 : Int32)) < (9 : Int32) then (Slot.val (.int (own_M0_144 p1 p2 p3 p5))) else (Slot.unset)), .unset] [(.ref b1138), (.ref b1113), (.ref b1077), (.ref as1101), (.int (0 : Int32)), (.ref b1096), (.ref b1096)])) ReturnedEndW
      refine own_dup X1138 hx (hb hby at_206) rfl (q := 207) rfl ?_
      obtain ⟨T1151, Lc1151, L1151, X1151, N1151, hQ1151, st1151⟩ := own_shutV (val := none) (Q := own_Q5 Z b1138 (0 : Int32) .null sa h1138 n0) (rc := 0) (rs := 0) N1125 (fun _ _ _ q => ⟨q.1, q.2.1⟩) (X1138.specialBack hx (y := (⟨"java/util/ArrayList", "<init>", "()V"⟩ : MethodName)) rfl hown (mvT hZ (hw _ (List.mem_of_getElem? (i := 37) rfl))) (mvT hZ (hw _ (List.mem_of_getElem? (i := 38) rfl))) (mvT hZ (hw _ (List.mem_of_getElem? (i := 39) rfl))) (by decide) (backOf (W := 7) (own_rm5 l Z a0 hw [] b1138 (0 : Int32) .null sa h1138 n0 Z1139 A1138 F_b1138_modCount F_b1138_elementData S_dc_1140 g_b1138) hZ (hw _ (List.mem_of_getElem? (i := 39) rfl)) (hw _ (List.mem_of_getElem? (i := 36) rfl)) (by decide) (by decide)) (g := (mkF m 207 #[.val (.int p0), .val (.int p1), .val (.int p2), .val (.int p3), .val (.long q4), .second, .val (.int p5), .val (.int (own_F1 p1 (own_F1 p2 p3))), .val (.int (own_F2 p1 (own_F2 p2 p3))), .val (.int (own_F2 (own_F1 p1 p2) (own_F1 (own_F2 p1 p2) p3))), .val (.int (1 : Int32)), .val (.ref b1077), .val (.int (p5 &&& (15 : Int32))), .val (.long (own_M0_133 p1 p2 p3 q4 p5)), .second, (if (p5 &&& (15 : Int32)) < (9 : Int32) then (Slot.val (.int ((p5 &&& (15 : Int32)) / (3 : Int32)))) else (Slot.unset)), (if (p5 &&& (15 : Int32)) < (9 : Int32) then (Slot.val (.int (own_M0_144 p1 p2 p3 p5))) else (Slot.unset)), .unset] [(.ref b1138), (.ref b1138), (.ref b1113), (.ref b1077), (.ref as1101), (.int (0 : Int32)), (.ref b1096), (.ref b1096)])) rfl (by rw [hml]; rfl) (Steps.refl _) (a := b1138) (argsL := []) (rest := [(.ref b1138), (.ref b1113), (.ref b1077), (.ref as1101), (.int (0 : Int32)), (.ref b1096), (.ref b1096)]) (lenOf own_pd0 rfl) rfl (by show 2 * 0 + _ ≤ _; exact Nat.le_of_eq rfl) (hb hby at_207) (fun _ _ => ⟨rfl, e1138, (by decide : 8 + 0 ≤ _), (by decide : 535 + 0 ≤ _)⟩))
      obtain ⟨-, -, K1151, Q1151_0⟩ := hQ1151
      have S_dc_1152 := own_StaK S_dc_1140 K1151 (allS (P := fun o => ∃ C, Exa Z _ o C) ⟨_, A1138⟩ all0)
      have Ex1077_1153 := Ex1077_1141.keep K1151
      have V_b1077_1154 := V_b1077_1142.keep K1151 (ninS ne_b1077_b1138 nin0)
      have A1096_1155 := A1096_1143.keep K1151
      have F_b1096_constraints_1156 := F_b1096_constraints_1144.keep K1151 (ninS ne_b1096_b1138 nin0)
      have F_b1096_index_1157 := F_b1096_index_1145.keep K1151 (ninS ne_b1096_b1138 nin0)
      have F_b1096_name_1158 := F_b1096_name_1146.keep K1151 (ninS ne_b1096_b1138 nin0)
      have F_b1096_values_1159 := F_b1096_values_1147.keep K1151 (ninS ne_b1096_b1138 nin0)
      have F_b1096_domain_1160 := F_b1096_domain_1148.keep K1151 (ninS ne_b1096_b1138 nin0)
      have F_b1096_assignmentListeners_1161 := F_b1096_assignmentListeners_1149.keep K1151 (ninS ne_b1096_b1138 nin0)
      have Q1125_1162 := Q1125_1150.keep K1151
      have A1138_1163 := A1138.keep K1151
      have Z1164 := Nat.le_trans Z1139 K1151.1
      have kZ1164 := Nat.le_trans kZ1139 K1151.1
      refine own_via st1151 ?_
      show own_End p e below s _ _ _ (T1151.setTop (mkF m 210 #[.val (.int p0), .val (.int p1), .val (.int p2), .val (.int p3), .val (.long q4), .second, .val (.int p5), .val (.int (own_F1 p1 (own_F1 p2 p3))), .val (.int (own_F2 p1 (own_F2 p2 p3))), .val (.int (own_F2 (own_F1 p1 p2) (own_F1 (own_F2 p1 p2) p3))), .val (.int (1 : Int32)), .val (.ref b1077), .val (.int (p5 &&& (15 : Int32))), .val (.long (own_M0_133 p1 p2 p3 q4 p5)), .second, (if (p5 &&& (15 : Int32)) < (9 : Int32) then (Slot.val (.int ((p5 &&& (15 : Int32)) / (3 : Int32)))) else (Slot.unset)), (if (p5 &&& (15 : Int32)) < (9 : Int32) then (Slot.val (.int (own_M0_144 p1 p2 p3 p5))) else (Slot.unset)), .unset] [(.ref b1138), (.ref b1113), (.ref b1077), (.ref as1101), (.int (0 : Int32)), (.ref b1096), (.ref b1096)])) ReturnedEndW
      obtain ⟨T1165, Lc1165, L1165, X1165, N1165, hQ1165, st1165⟩ := own_shutV (val := none) (Q := own_Q8_1 Z b1096 (0 : Int32) as1101 b1077 b1113 b1138 .null (0 : Int32) .null .null .null .null k1077 (own_F1 p1 (own_F1 p2 p3)) sa T1151.heap n0) (rc := 4) (rs := 10) N1151 (fun _ _ _ q => ⟨q.1, q.2.1⟩) (X1151.specialBack hx (y := (⟨"com/example/arcwise/arcwise/network/Variable", "<init>", "(ILjava/lang/String;[ILcom/example/arcwise/arcwise/network/Trail;Ljava/util/List;)V"⟩ : MethodName)) rfl hown (mvT hZ (hw _ (List.mem_of_getElem? (i := 58) rfl))) (mvT hZ (hw _ (List.mem_of_getElem? (i := 59) rfl))) (mvT hZ (hw _ (List.mem_of_getElem? (i := 60) rfl))) (by decide) (backOf (W := 1) (own_rm8_1 l Z a0 hw [] b1096 (0 : Int32) as1101 b1077 b1113 b1138 .null (0 : Int32) .null .null .null .null k1077 (own_F1 p1 (own_F1 p2 p3)) sa T1151.heap n0 Z1164 A1096_1155 F_b1096_constraints_1156 F_b1096_index_1157 F_b1096_name_1158 F_b1096_values_1159 F_b1096_domain_1160 F_b1096_assignmentListeners_1161 V_b1077_1154 Ex1077_1153 (Ne.symm ne_b1077_b1096) S_dc_1152 g_b1096) hZ (hw _ (List.mem_of_getElem? (i := 60) rfl)) (hw _ (List.mem_of_getElem? (i := 10) rfl)) (by decide) (by decide)) (g := (mkF m 210 #[.val (.int p0), .val (.int p1), .val (.int p2), .val (.int p3), .val (.long q4), .second, .val (.int p5), .val (.int (own_F1 p1 (own_F1 p2 p3))), .val (.int (own_F2 p1 (own_F2 p2 p3))), .val (.int (own_F2 (own_F1 p1 p2) (own_F1 (own_F2 p1 p2) p3))), .val (.int (1 : Int32)), .val (.ref b1077), .val (.int (p5 &&& (15 : Int32))), .val (.long (own_M0_133 p1 p2 p3 q4 p5)), .second, (if (p5 &&& (15 : Int32)) < (9 : Int32) then (Slot.val (.int ((p5 &&& (15 : Int32)) / (3 : Int32)))) else (Slot.unset)), (if (p5 &&& (15 : Int32)) < (9 : Int32) then (Slot.val (.int (own_M0_144 p1 p2 p3 p5))) else (Slot.unset)), .unset] [(.ref b1138), (.ref b1113), (.ref b1077), (.ref as1101), (.int (0 : Int32)), (.ref b1096), (.ref b1096)])) rfl (by rw [hml]; rfl) (Steps.refl _) (a := b1096) (argsL := [(.int (0 : Int32)), (.ref as1101), (.ref b1077), (.ref b1113), (.ref b1138)]) (rest := [(.ref b1096)]) (lenOf own_pd3 rfl) rfl (by show 2 * 0 + _ ≤ _; exact Nat.le_of_eq rfl) (hb hby at_210) (fun _ _ => ⟨rfl, rfl, (by decide : 8 + 4 ≤ _), (by decide : 535 + 10 ≤ _)⟩))
      obtain ⟨-, -, K1165, b1165_0, k1165_0, sb1165_0, Q1165_0, Q1165_1, Q1165_2, Q1165_3⟩ := hQ1165
      have ne_b1077_b1165_0 : b1077 ≠ b1165_0 := Nat.ne_of_lt (Nat.lt_of_lt_of_le Ex1077_1153.lt sb1165_0)
      have ne_b1096_b1165_0 : b1096 ≠ b1165_0 := Nat.ne_of_lt (Nat.lt_of_lt_of_le A1096_1155.lt sb1165_0)
      have ne_b1113_b1165_0 : b1113 ≠ b1165_0 := Nat.ne_of_lt (Nat.lt_of_lt_of_le Q1125_1162.lt sb1165_0)
      have ne_b1138_b1165_0 : b1138 ≠ b1165_0 := Nat.ne_of_lt (Nat.lt_of_lt_of_le Q1151_0.lt sb1165_0)
      have g_b1165_0 : n0 ≤ b1165_0 := Nat.le_trans Z1164 sb1165_0
      have S_dc_1166 := own_StaK S_dc_1152 K1165 (allS (P := fun o => ∃ C, Exa Z _ o C) ⟨_, A1096_1155⟩ all0)
      have Ex1077_1167 := Ex1077_1153.keep K1165
      have V_b1077_1168 := V_b1077_1154.keep K1165 (ninS ne_b1077_b1096 nin0)
      have A1096_1169 := A1096_1155.keep K1165
      have Q1125_1170 := Q1125_1162.keep K1165
      have Q1151_1171 := Q1151_0.keep K1165
      have Z1172 := Nat.le_trans Z1164 K1165.1
      have kZ1172 := Nat.le_trans kZ1164 K1165.1
      refine own_via st1165 ?_
      show own_End p e below s _ _ _ (T1165.setTop (mkF m 213 #[.val (.int p0), .val (.int p1), .val (.int p2), .val (.int p3), .val (.long q4), .second, .val (.int p5), .val (.int (own_F1 p1 (own_F1 p2 p3))), .val (.int (own_F2 p1 (own_F2 p2 p3))), .val (.int (own_F2 (own_F1 p1 p2) (own_F1 (own_F2 p1 p2) p3))), .val (.int (1 : Int32)), .val (.ref b1077), .val (.int (p5 &&& (15 : Int32))), .val (.long (own_M0_133 p1 p2 p3 q4 p5)), .second, (if (p5 &&& (15 : Int32)) < (9 : Int32) then (Slot.val (.int ((p5 &&& (15 : Int32)) / (3 : Int32)))) else (Slot.unset)), (if (p5 &&& (15 : Int32)) < (9 : Int32) then (Slot.val (.int (own_M0_144 p1 p2 p3 p5))) else (Slot.unset)), .unset] [(.ref b1096)])) ReturnedEndW
      refine own_astore X1165 hx (hb hby at_213) rfl (l' := #[.val (.int p0), .val (.int p1), .val (.int p2), .val (.int p3), .val (.long q4), .second, .val (.int p5), .val (.int (own_F1 p1 (own_F1 p2 p3))), .val (.int (own_F2 p1 (own_F2 p2 p3))), .val (.int (own_F2 (own_F1 p1 p2) (own_F1 (own_F2 p1 p2) p3))), .val (.int (1 : Int32)), .val (.ref b1077), .val (.int (p5 &&& (15 : Int32))), .val (.long (own_M0_133 p1 p2 p3 q4 p5)), .second, .val (.ref b1096), (if (p5 &&& (15 : Int32)) < (9 : Int32) then (Slot.val (.int (own_M0_144 p1 p2 p3 p5))) else (Slot.unset)), .unset]) (Or.elim (Classical.em ((p5 &&& (15 : Int32)) < (9 : Int32))) (fun hz0 => (by simp only [if_pos hz0]; rfl)) (fun hz0 => (by simp only [if_neg hz0]; rfl))) (q := 215) rfl ?_
      refine own_aload X1165 hx (hb hby at_215) rfl rfl (q := 217) rfl ?_
      refine own_lload X1165 hx (hb hby at_217) rfl (q := 219) rfl ?_
      obtain ⟨cq1173, kq1173, q1173a, q1173b, q1173c⟩ := isOf hZ rfl Q1165_0
      obtain ⟨T1173, Lc1173, L1173, X1173, N1173, hQ1173, st1173⟩ := own_shutV (val := some (.int (own_F10_1 (own_M0_133 p1 p2 p3 q4 p5) (own_F1 p1 (own_F1 p2 p3))))) (Q := own_Q10_1 Z b1096 (own_M0_133 p1 p2 p3 q4 p5) b1165_0 k1165_0 (own_F1 p1 (own_F1 p2 p3)) T1165.heap n0) (rc := 0) (rs := 0) N1165 (fun _ _ _ q => ⟨q.1, q.2.1⟩) (X1165.virtualBack hx (y := (⟨"com/example/arcwise/arcwise/network/Variable", "indexAtLeast", "(J)I"⟩ : MethodName)) (z := (⟨"com/example/arcwise/arcwise/network/Variable", "indexAtLeast", "(J)I"⟩ : MethodName)) hown (mvT hZ (hw _ (List.mem_of_getElem? (i := 101) rfl))) (mvT hZ (hw _ (List.mem_of_getElem? (i := 102) rfl))) (notFace_of_selects (args := #[]) (mvT hZ (hw _ (List.mem_of_getElem? (i := 104) rfl)))) (mvT hZ (hw _ (List.mem_of_getElem? (i := 104) rfl))) (mvT hZ (hw _ (List.mem_of_getElem? (i := 103) rfl))) (by decide) (backOf (W := 0) (own_rm10_1 l Z a0 hw [] b1096 (own_M0_133 p1 p2 p3 q4 p5) b1165_0 k1165_0 (own_F1 p1 (own_F1 p2 p3)) T1165.heap n0 Z1172 Q1165_0 Q1165_1 Q1165_3) hZ (hw _ (List.mem_of_getElem? (i := 105) rfl)) (hw _ (List.mem_of_getElem? (i := 10) rfl)) (by decide) (by decide)) q1173a q1173c (g := (mkF m 219 #[.val (.int p0), .val (.int p1), .val (.int p2), .val (.int p3), .val (.long q4), .second, .val (.int p5), .val (.int (own_F1 p1 (own_F1 p2 p3))), .val (.int (own_F2 p1 (own_F2 p2 p3))), .val (.int (own_F2 (own_F1 p1 p2) (own_F1 (own_F2 p1 p2) p3))), .val (.int (1 : Int32)), .val (.ref b1077), .val (.int (p5 &&& (15 : Int32))), .val (.long (own_M0_133 p1 p2 p3 q4 p5)), .second, .val (.ref b1096), (if (p5 &&& (15 : Int32)) < (9 : Int32) then (Slot.val (.int (own_M0_144 p1 p2 p3 p5))) else (Slot.unset)), .unset] [(.long (own_M0_133 p1 p2 p3 q4 p5)), (.ref b1096)])) rfl (by rw [hml]; rfl) (Steps.refl _) (argsL := [(.long (own_M0_133 p1 p2 p3 q4 p5))]) (rest := []) (lenOf own_pd4 rfl) rfl (by show 2 * 0 + _ ≤ _; exact Nat.le_of_eq rfl) (hb hby at_219) (fun _ _ => ⟨rfl, rfl, (by decide : 12 + 0 ≤ _), (by decide : 545 + 0 ≤ _)⟩))
      obtain ⟨-, -, e1173⟩ := hQ1173
      refine own_via st1173 ?_
      show own_End p e below s _ _ _ (T1173.setTop (mkF m 222 #[.val (.int p0), .val (.int p1), .val (.int p2), .val (.int p3), .val (.long q4), .second, .val (.int p5), .val (.int (own_F1 p1 (own_F1 p2 p3))), .val (.int (own_F2 p1 (own_F2 p2 p3))), .val (.int (own_F2 (own_F1 p1 p2) (own_F1 (own_F2 p1 p2) p3))), .val (.int (1 : Int32)), .val (.ref b1077), .val (.int (p5 &&& (15 : Int32))), .val (.long (own_M0_133 p1 p2 p3 q4 p5)), .second, .val (.ref b1096), (if (p5 &&& (15 : Int32)) < (9 : Int32) then (Slot.val (.int (own_M0_144 p1 p2 p3 p5))) else (Slot.unset)), .unset] [(.int (own_F10_1 (own_M0_133 p1 p2 p3 q4 p5) (own_F1 p1 (own_F1 p2 p3))))])) ReturnedEndW
      refine own_istore X1173 hx (hb hby at_222) (l' := #[.val (.int p0), .val (.int p1), .val (.int p2), .val (.int p3), .val (.long q4), .second, .val (.int p5), .val (.int (own_F1 p1 (own_F1 p2 p3))), .val (.int (own_F2 p1 (own_F2 p2 p3))), .val (.int (own_F2 (own_F1 p1 p2) (own_F1 (own_F2 p1 p2) p3))), .val (.int (1 : Int32)), .val (.ref b1077), .val (.int (p5 &&& (15 : Int32))), .val (.long (own_M0_133 p1 p2 p3 q4 p5)), .second, .val (.ref b1096), .val (.int (own_F10_1 (own_M0_133 p1 p2 p3 q4 p5) (own_F1 p1 (own_F1 p2 p3)))), .unset]) (Or.elim (Classical.em ((p5 &&& (15 : Int32)) < (9 : Int32))) (fun hz0 => (by simp only [if_pos hz0]; rfl)) (fun hz0 => (by simp only [if_neg hz0]; rfl))) (q := 224) rfl ?_
      refine own_iconst X1173 hx (hb hby at_224) (z := 0) rfl (q := 225) rfl ?_
      refine own_istore X1173 hx (hb hby at_225) (l' := #[.val (.int p0), .val (.int p1), .val (.int p2), .val (.int p3), .val (.long q4), .second, .val (.int p5), .val (.int (own_F1 p1 (own_F1 p2 p3))), .val (.int (own_F2 p1 (own_F2 p2 p3))), .val (.int (own_F2 (own_F1 p1 p2) (own_F1 (own_F2 p1 p2) p3))), .val (.int (1 : Int32)), .val (.ref b1077), .val (.int (p5 &&& (15 : Int32))), .val (.long (own_M0_133 p1 p2 p3 q4 p5)), .second, .val (.ref b1096), .val (.int (own_F10_1 (own_M0_133 p1 p2 p3 q4 p5) (own_F1 p1 (own_F1 p2 p3)))), .val (.int (0 : Int32))]) rfl (q := 227) rfl ?_
      refine own_iload X1173 hx (hb hby at_227) rfl (q := 229) rfl ?_
      refine own_ifN X1173 hx (hb hby at_229) (tlt (by decide : ((0 : Int32) < (1 : Int32)))).2.2.2 (q := 232) rfl ?_
      refine own_aload X1173 hx (hb hby at_232) rfl rfl (q := 234) rfl ?_
      refine own_iconst X1173 hx (hb hby at_234) (z := 0) rfl (q := 235) rfl ?_
      obtain ⟨cl1174, Ar1174, q1174, S1174, N1174v, H1174, G1174⟩ := id V_b1077_1168
      have hin1174 : ¬ ((0 : Int32) < 0 ∨ cl1174.slots.size ≤ ((0 : Int32)).toNatClampNeg) := inb_of S1174 ⟨by decide, by decide⟩
      refine own_back (X1173.iaload hx (j := (0 : Int32)) (v := (.int (own_F1 p1 (own_F1 p2 p3)))) (by rw [e1173]; exact Ar1174.1) (State.isArrayOf_alike hZ.alike Ar1174.2.1) Ar1174.2.2 hin1174 (Has.at H1174 hin1174 rfl) (g := (mkF m 235 #[.val (.int p0), .val (.int p1), .val (.int p2), .val (.int p3), .val (.long q4), .second, .val (.int p5), .val (.int (own_F1 p1 (own_F1 p2 p3))), .val (.int (own_F2 p1 (own_F2 p2 p3))), .val (.int (own_F2 (own_F1 p1 p2) (own_F1 (own_F2 p1 p2) p3))), .val (.int (1 : Int32)), .val (.ref b1077), .val (.int (p5 &&& (15 : Int32))), .val (.long (own_M0_133 p1 p2 p3 q4 p5)), .second, .val (.ref b1096), .val (.int (own_F10_1 (own_M0_133 p1 p2 p3 q4 p5) (own_F1 p1 (own_F1 p2 p3)))), .val (.int (0 : Int32))] [(.int (0 : Int32)), (.ref b1077)])) rfl rfl (hb hby at_235)) ?_
      show own_End p e below s _ _ _ (T1173.setTop (mkF m 236 #[.val (.int p0), .val (.int p1), .val (.int p2), .val (.int p3), .val (.long q4), .second, .val (.int p5), .val (.int (own_F1 p1 (own_F1 p2 p3))), .val (.int (own_F2 p1 (own_F2 p2 p3))), .val (.int (own_F2 (own_F1 p1 p2) (own_F1 (own_F2 p1 p2) p3))), .val (.int (1 : Int32)), .val (.ref b1077), .val (.int (p5 &&& (15 : Int32))), .val (.long (own_M0_133 p1 p2 p3 q4 p5)), .second, .val (.ref b1096), .val (.int (own_F10_1 (own_M0_133 p1 p2 p3 q4 p5) (own_F1 p1 (own_F1 p2 p3)))), .val (.int (0 : Int32))] [(.int (own_F1 p1 (own_F1 p2 p3)))])) ReturnedEndW
      refine own_i2l X1173 hx (hb hby at_236) (q := 237) rfl ?_
      refine own_lload X1173 hx (hb hby at_237) rfl (q := 239) rfl ?_
      suffices J1178 : own_End p e below s (own_Q0 Z p0 p1 p2 p3 q4 p5 sa h0 n0) room_1.cells room_1.slots (T1173.setTop (mkF m 246 #[.val (.int p0), .val (.int p1), .val (.int p2), .val (.int p3), .val (.long q4), .second, .val (.int p5), .val (.int (own_F1 p1 (own_F1 p2 p3))), .val (.int (own_F2 p1 (own_F2 p2 p3))), .val (.int (own_F2 (own_F1 p1 p2) (own_F1 (own_F2 p1 p2) p3))), .val (.int (1 : Int32)), .val (.ref b1077), .val (.int (p5 &&& (15 : Int32))), .val (.long (own_M0_133 p1 p2 p3 q4 p5)), .second, .val (.ref b1096), .val (.int (own_F10_1 (own_M0_133 p1 p2 p3 q4 p5) (own_F1 p1 (own_F1 p2 p3)))), .val (.int (own_M0_240 p1 p2 p3 q4 p5))] [])) ReturnedEndW by
        by_cases hc240_1175 : ((own_F1 p1 (own_F1 p2 p3)).toInt64) < (own_M0_133 p1 p2 p3 q4 p5)
        · refine own_lcN X1173 hx (hb hby at_239) (r := 240) rfl (hb hby at_240) (own_tlt hc240_1175).2.1 (q := 243) rfl ?_
          refine own_iinc X1173 hx (hb hby at_243) rfl (z := 1) rfl (l' := #[.val (.int p0), .val (.int p1), .val (.int p2), .val (.int p3), .val (.long q4), .second, .val (.int p5), .val (.int (own_F1 p1 (own_F1 p2 p3))), .val (.int (own_F2 p1 (own_F2 p2 p3))), .val (.int (own_F2 (own_F1 p1 p2) (own_F1 (own_F2 p1 p2) p3))), .val (.int (1 : Int32)), .val (.ref b1077), .val (.int (p5 &&& (15 : Int32))), .val (.long (own_M0_133 p1 p2 p3 q4 p5)), .second, .val (.ref b1096), .val (.int (own_F10_1 (own_M0_133 p1 p2 p3 q4 p5) (own_F1 p1 (own_F1 p2 p3)))), .val (.int (1 : Int32))]) rfl (q := 246) rfl ?_
          simp only [own_M0_240, if_pos hc240_1175] at J1178
          exact J1178
        · refine own_lcY X1173 hx (hb hby at_239) (r := 240) rfl (hb hby at_240) (own_flt hc240_1175).2.1 (q := 246) (by decide) (by decide) ?_
          simp only [own_M0_240, if_neg hc240_1175] at J1178
          exact J1178
      refine own_iload X1173 hx (hb hby at_246) rfl (q := 248) rfl ?_
      refine own_iconst X1173 hx (hb hby at_248) (z := 1) rfl (q := 249) rfl ?_
      refine own_icY X1173 hx (hb hby at_249) (flt (by decide : ¬ ((1 : Int32) < (1 : Int32)))).2.2.2 (q := 266) (by decide) (by decide) ?_
      refine own_iload X1173 hx (hb hby at_266) rfl (q := 268) rfl ?_
      refine own_iconst X1173 hx (hb hby at_268) (z := 2) rfl (q := 269) rfl ?_
      refine own_icY X1173 hx (hb hby at_269) (flt (by decide : ¬ ((2 : Int32) < (1 : Int32)))).2.2.2 (q := 286) (by decide) (by decide) ?_
      refine own_iload X1173 hx (hb hby at_286) rfl (q := 288) rfl ?_
      refine own_iload X1173 hx (hb hby at_288) rfl (q := 290) rfl ?_
      have hk1179 : (own_F10_1 (own_M0_133 p1 p2 p3 q4 p5) (own_F1 p1 (own_F1 p2 p3))) = (own_M0_240 p1 p2 p3 q4 p5) := rfl
      refine own_icN X1173 hx (hb hby at_290) (teq hk1179).2 (q := 293) rfl ?_
      refine own_iconst X1173 hx (hb hby at_293) (z := 1) rfl (q := 294) rfl ?_
      refine own_goto X1173 hx (hb hby at_294) (q := 298) (by decide) (by decide) ?_
      refine own_retNW X1173 hx hS1101 (by rw [e1173]; exact kZ1172) (t := .boolean) (by simp) Bd.returns Bd.notSynchronized (by decide) (by decide) (hb hby at_298) ?_
      show own_Q0 Z p0 p1 p2 p3 q4 p5 sa h0 n0 _ T1173.heap _
      exact ⟨rfl, N1173⟩
    · by_cases hz1181 : (p0 &&& (3 : Int32)) = (2 : Int32)
      · rw [hz1181]
        refine own_istore X980 hx (hb hby at_44) (l' := #[.val (.int p0), .val (.int p1), .val (.int p2), .val (.int p3), .val (.long q4), .second, .val (.int p5), .val (.int (own_F1 p1 (own_F1 p2 p3))), .val (.int (own_F2 p1 (own_F2 p2 p3))), .val (.int (own_F2 (own_F1 p1 p2) (own_F1 (own_F2 p1 p2) p3))), .val (.int (2 : Int32)), .unset, .unset, .unset, .unset, .unset, .unset, .unset]) rfl (q := 46) rfl ?_
        refine own_iload X980 hx (hb hby at_46) rfl (q := 48) rfl ?_
        refine own_ifY X980 hx (hb hby at_48) (feq (by decide : ¬ ((2 : Int32) = (0 : Int32)))).2 (q := 59) (by decide) (by decide) ?_
        refine own_iload X980 hx (hb hby at_59) rfl (q := 61) rfl ?_
        refine own_iconst X980 hx (hb hby at_61) (z := 1) rfl (q := 62) rfl ?_
        refine own_icY X980 hx (hb hby at_62) (feq (by decide : ¬ ((2 : Int32) = (1 : Int32)))).2 (q := 78) (by decide) (by decide) ?_
        refine own_iload X980 hx (hb hby at_78) rfl (q := 80) rfl ?_
        refine own_iconst X980 hx (hb hby at_80) (z := 2) rfl (q := 81) rfl ?_
        refine own_icN X980 hx (hb hby at_81) (teq (by decide : ((2 : Int32) = (2 : Int32)))).2 (q := 84) rfl ?_
        refine own_iconst X980 hx (hb hby at_84) (z := 2) rfl (q := 85) rfl ?_
        obtain ⟨T1182, h1182, k1182, X1182, e1182, E1182, A1182, Ex1182, st1182⟩ := newPE X980 hx hZ (hw _ (List.mem_of_getElem? (i := 7) rfl)) e980 (g := (mkF m 85 #[.val (.int p0), .val (.int p1), .val (.int p2), .val (.int p3), .val (.long q4), .second, .val (.int p5), .val (.int (own_F1 p1 (own_F1 p2 p3))), .val (.int (own_F2 p1 (own_F2 p2 p3))), .val (.int (own_F2 (own_F1 p1 p2) (own_F1 (own_F2 p1 p2) p3))), .val (.int (2 : Int32)), .unset, .unset, .unset, .unset, .unset, .unset, .unset] [(.int (2 : Int32))])) rfl (hb hby at_85) rfl (by decide) (cap := 2) (by decide) (by decide) (by decide) (by decide) (ad := "[I") rfl
        obtain ⟨b1182, g1182⟩ : ∃ z, z = h0.size := ⟨_, rfl⟩
        have g_b1182 : n0 ≤ b1182 := Nat.le_trans Z0 (Nat.le_of_eq g1182.symm)
        have Z1183 := Nat.le_trans Z0 E1182.1
        rw [← g1182] at A1182 Ex1182 st1182
        have S_dc_1184 := S_dc.ext E1182
        have V_b1182 : Arv Z h1182 b1182 k1182 .int (2 : Int32) [(.int (0 : Int32)), (.int (0 : Int32))] (.int (0 : Int32)) := (Arv.new A1182 (by decide)).pad (pad_rep [] (.int (0 : Int32)) 2)
        refine own_back st1182 ?_
        show own_End p e below s _ _ _ (T1182.setTop (mkF m 87 #[.val (.int p0), .val (.int p1), .val (.int p2), .val (.int p3), .val (.long q4), .second, .val (.int p5), .val (.int (own_F1 p1 (own_F1 p2 p3))), .val (.int (own_F2 p1 (own_F2 p2 p3))), .val (.int (own_F2 (own_F1 p1 p2) (own_F1 (own_F2 p1 p2) p3))), .val (.int (2 : Int32)), .unset, .unset, .unset, .unset, .unset, .unset, .unset] [(.ref b1182)])) ReturnedEndW
        refine own_dup X1182 hx (hb hby at_87) rfl (q := 88) rfl ?_
        refine own_iconst X1182 hx (hb hby at_88) (z := 0) rfl (q := 89) rfl ?_
        refine own_iload X1182 hx (hb hby at_89) rfl (q := 91) rfl ?_
        obtain ⟨cl1185, Ar1185, q1185, S1185, N1185v, H1185, G1185⟩ := id V_b1182
        have hin1185 : ¬ ((0 : Int32) < 0 ∨ cl1185.slots.size ≤ ((0 : Int32)).toNatClampNeg) := inb_of S1185 ⟨by decide, by decide⟩
        obtain ⟨T1185, h1185, X1185, e1185, W1185, st1185⟩ := stI X1182 hx hZ e1182 Ar1185 (j := (0 : Int32)) hin1185 (g := (mkF m 91 #[.val (.int p0), .val (.int p1), .val (.int p2), .val (.int p3), .val (.long q4), .second, .val (.int p5), .val (.int (own_F1 p1 (own_F1 p2 p3))), .val (.int (own_F2 p1 (own_F2 p2 p3))), .val (.int (own_F2 (own_F1 p1 p2) (own_F1 (own_F2 p1 p2) p3))), .val (.int (2 : Int32)), .unset, .unset, .unset, .unset, .unset, .unset, .unset] [(.int (own_F1 p1 (own_F1 p2 p3))), (.int (0 : Int32)), (.ref b1182), (.ref b1182)])) rfl rfl (hb hby at_91)
        have V_b1182_1185 : Arv Z h1185 b1182 k1182 .int (2 : Int32) [(.int (own_F1 p1 (own_F1 p2 p3))), (.int (0 : Int32))] (.int (0 : Int32)) := Arv.set Ar1185 q1185 S1185 N1185v H1185 G1185 rfl W1185 0 rfl (Nat.le_of_ble_eq_true rfl)
        have S_dc_1186 := S_dc_1184.wr W1185
        have Ex1182_1187 := Ex1182.wr W1185
        have Z1188 := Nat.le_trans Z1183 (Keep.of_wr W1185).1
        obtain ⟨L1185, X1185, N1185⟩ := own_gl X1185 (Fr.snoc X1185 N980 g_b1182)
        refine own_back st1185 ?_
        show own_End p e below s _ _ _ (T1185.setTop (mkF m 92 #[.val (.int p0), .val (.int p1), .val (.int p2), .val (.int p3), .val (.long q4), .second, .val (.int p5), .val (.int (own_F1 p1 (own_F1 p2 p3))), .val (.int (own_F2 p1 (own_F2 p2 p3))), .val (.int (own_F2 (own_F1 p1 p2) (own_F1 (own_F2 p1 p2) p3))), .val (.int (2 : Int32)), .unset, .unset, .unset, .unset, .unset, .unset, .unset] [(.ref b1182)])) ReturnedEndW
        refine own_dup X1185 hx (hb hby at_92) rfl (q := 93) rfl ?_
        refine own_iconst X1185 hx (hb hby at_93) (z := 1) rfl (q := 94) rfl ?_
        refine own_iload X1185 hx (hb hby at_94) rfl (q := 96) rfl ?_
        obtain ⟨cl1189, Ar1189, q1189, S1189, N1189v, H1189, G1189⟩ := id V_b1182_1185
        have hin1189 : ¬ ((1 : Int32) < 0 ∨ cl1189.slots.size ≤ ((1 : Int32)).toNatClampNeg) := inb_of S1189 ⟨by decide, by decide⟩
        obtain ⟨T1189, h1189, X1189, e1189, W1189, st1189⟩ := stI X1185 hx hZ e1185 Ar1189 (j := (1 : Int32)) hin1189 (g := (mkF m 96 #[.val (.int p0), .val (.int p1), .val (.int p2), .val (.int p3), .val (.long q4), .second, .val (.int p5), .val (.int (own_F1 p1 (own_F1 p2 p3))), .val (.int (own_F2 p1 (own_F2 p2 p3))), .val (.int (own_F2 (own_F1 p1 p2) (own_F1 (own_F2 p1 p2) p3))), .val (.int (2 : Int32)), .unset, .unset, .unset, .unset, .unset, .unset, .unset] [(.int (own_F2 p1 (own_F2 p2 p3))), (.int (1 : Int32)), (.ref b1182), (.ref b1182)])) rfl rfl (hb hby at_96)
        have V_b1182_1189 : Arv Z h1189 b1182 k1182 .int (2 : Int32) [(.int (own_F1 p1 (own_F1 p2 p3))), (.int (own_F2 p1 (own_F2 p2 p3)))] (.int (0 : Int32)) := Arv.set Ar1189 q1189 S1189 N1189v H1189 G1189 rfl W1189 1 rfl (Nat.le_of_ble_eq_true rfl)
        have S_dc_1190 := S_dc_1186.wr W1189
        have Ex1182_1191 := Ex1182_1187.wr W1189
        have Z1192 := Nat.le_trans Z1188 (Keep.of_wr W1189).1
        obtain ⟨L1189, X1189, N1189⟩ := own_gl X1189 (Fr.snoc X1189 N1185 g_b1182)
        refine own_back st1189 ?_
        show own_End p e below s _ _ _ (T1189.setTop (mkF m 97 #[.val (.int p0), .val (.int p1), .val (.int p2), .val (.int p3), .val (.long q4), .second, .val (.int p5), .val (.int (own_F1 p1 (own_F1 p2 p3))), .val (.int (own_F2 p1 (own_F2 p2 p3))), .val (.int (own_F2 (own_F1 p1 p2) (own_F1 (own_F2 p1 p2) p3))), .val (.int (2 : Int32)), .unset, .unset, .unset, .unset, .unset, .unset, .unset] [(.ref b1182)])) ReturnedEndW
        refine own_astore X1189 hx (hb hby at_97) rfl (l' := #[.val (.int p0), .val (.int p1), .val (.int p2), .val (.int p3), .val (.long q4), .second, .val (.int p5), .val (.int (own_F1 p1 (own_F1 p2 p3))), .val (.int (own_F2 p1 (own_F2 p2 p3))), .val (.int (own_F2 (own_F1 p1 p2) (own_F1 (own_F2 p1 p2) p3))), .val (.int (2 : Int32)), .val (.ref b1182), .unset, .unset, .unset, .unset, .unset, .unset]) rfl (q := 99) rfl ?_
        refine own_goto X1189 hx (hb hby at_99) (q := 122) (by decide) (by decide) ?_
        refine own_iload X1189 hx (hb hby at_122) rfl (q := 124) rfl ?_
        refine own_bipush X1189 hx (hb hby at_124) (z := 15) rfl (q := 126) rfl ?_
        refine own_iand X1189 hx (hb hby at_126) (q := 127) rfl ?_
        refine own_istore X1189 hx (hb hby at_127) (l' := #[.val (.int p0), .val (.int p1), .val (.int p2), .val (.int p3), .val (.long q4), .second, .val (.int p5), .val (.int (own_F1 p1 (own_F1 p2 p3))), .val (.int (own_F2 p1 (own_F2 p2 p3))), .val (.int (own_F2 (own_F1 p1 p2) (own_F1 (own_F2 p1 p2) p3))), .val (.int (2 : Int32)), .val (.ref b1182), .val (.int (p5 &&& (15 : Int32))), .unset, .unset, .unset, .unset, .unset]) rfl (q := 129) rfl ?_
        refine own_iload X1189 hx (hb hby at_129) rfl (q := 131) rfl ?_
        refine own_bipush X1189 hx (hb hby at_131) (z := 9) rfl (q := 133) rfl ?_
        suffices J1204 : own_End p e below s (own_Q0 Z p0 p1 p2 p3 q4 p5 sa h0 n0) room_1.cells room_1.slots (T1189.setTop (mkF m 187 #[.val (.int p0), .val (.int p1), .val (.int p2), .val (.int p3), .val (.long q4), .second, .val (.int p5), .val (.int (own_F1 p1 (own_F1 p2 p3))), .val (.int (own_F2 p1 (own_F2 p2 p3))), .val (.int (own_F2 (own_F1 p1 p2) (own_F1 (own_F2 p1 p2) p3))), .val (.int (2 : Int32)), .val (.ref b1182), .val (.int (p5 &&& (15 : Int32))), .val (.long (own_M0_133 p1 p2 p3 q4 p5)), .second, (if (p5 &&& (15 : Int32)) < (9 : Int32) then (Slot.val (.int ((p5 &&& (15 : Int32)) / (3 : Int32)))) else (Slot.unset)), (if (p5 &&& (15 : Int32)) < (9 : Int32) then (Slot.val (.int (own_M0_144 p1 p2 p3 p5))) else (Slot.unset)), .unset] [])) ReturnedEndW by
          by_cases hc133_1193 : (p5 &&& (15 : Int32)) < (9 : Int32)
          · refine own_icN X1189 hx (hb hby at_133) (tlt hc133_1193).2.1 (q := 136) rfl ?_
            refine own_iload X1189 hx (hb hby at_136) rfl (q := 138) rfl ?_
            refine own_iconst X1189 hx (hb hby at_138) (z := 3) rfl (q := 139) rfl ?_
            refine own_idiv X1189 hx (hb hby at_139) (by decide) (q := 140) rfl ?_
            refine own_istore X1189 hx (hb hby at_140) (l' := #[.val (.int p0), .val (.int p1), .val (.int p2), .val (.int p3), .val (.long q4), .second, .val (.int p5), .val (.int (own_F1 p1 (own_F1 p2 p3))), .val (.int (own_F2 p1 (own_F2 p2 p3))), .val (.int (own_F2 (own_F1 p1 p2) (own_F1 (own_F2 p1 p2) p3))), .val (.int (2 : Int32)), .val (.ref b1182), .val (.int (p5 &&& (15 : Int32))), .unset, .unset, .val (.int ((p5 &&& (15 : Int32)) / (3 : Int32))), .unset, .unset]) rfl (q := 142) rfl ?_
            refine own_iload X1189 hx (hb hby at_142) rfl (q := 144) rfl ?_
            suffices J1201 : own_End p e below s (own_Q0 Z p0 p1 p2 p3 q4 p5 sa h0 n0) room_1.cells room_1.slots (T1189.setTop (mkF m 165 #[.val (.int p0), .val (.int p1), .val (.int p2), .val (.int p3), .val (.long q4), .second, .val (.int p5), .val (.int (own_F1 p1 (own_F1 p2 p3))), .val (.int (own_F2 p1 (own_F2 p2 p3))), .val (.int (own_F2 (own_F1 p1 p2) (own_F1 (own_F2 p1 p2) p3))), .val (.int (2 : Int32)), .val (.ref b1182), .val (.int (p5 &&& (15 : Int32))), .unset, .unset, .val (.int ((p5 &&& (15 : Int32)) / (3 : Int32))), .unset, .unset] [(.int (own_M0_144 p1 p2 p3 p5))])) ReturnedEndW by
              by_cases hc144_1194 : ((p5 &&& (15 : Int32)) / (3 : Int32)) = (0 : Int32)
              · refine own_ifN X1189 hx (hb hby at_144) (teq hc144_1194).2 (q := 147) rfl ?_
                refine own_iload X1189 hx (hb hby at_147) rfl (q := 149) rfl ?_
                refine own_goto X1189 hx (hb hby at_149) (q := 165) (by decide) (by decide) ?_
                simp only [own_M0_144, if_pos hc144_1194] at J1201
                exact J1201
              · refine own_ifY X1189 hx (hb hby at_144) (feq hc144_1194).2 (q := 152) (by decide) (by decide) ?_
                refine own_iload X1189 hx (hb hby at_152) rfl (q := 154) rfl ?_
                refine own_iconst X1189 hx (hb hby at_154) (z := 1) rfl (q := 155) rfl ?_
                suffices J1199 : own_End p e below s (own_Q0 Z p0 p1 p2 p3 q4 p5 sa h0 n0) room_1.cells room_1.slots (T1189.setTop (mkF m 165 #[.val (.int p0), .val (.int p1), .val (.int p2), .val (.int p3), .val (.long q4), .second, .val (.int p5), .val (.int (own_F1 p1 (own_F1 p2 p3))), .val (.int (own_F2 p1 (own_F2 p2 p3))), .val (.int (own_F2 (own_F1 p1 p2) (own_F1 (own_F2 p1 p2) p3))), .val (.int (2 : Int32)), .val (.ref b1182), .val (.int (p5 &&& (15 : Int32))), .unset, .unset, .val (.int ((p5 &&& (15 : Int32)) / (3 : Int32))), .unset, .unset] [(.int (own_M0_155 p1 p2 p3 p5))])) ReturnedEndW by
                  by_cases hc155_1196 : ((p5 &&& (15 : Int32)) / (3 : Int32)) = (1 : Int32)
                  · refine own_icN X1189 hx (hb hby at_155) (teq hc155_1196).2 (q := 158) rfl ?_
                    refine own_iload X1189 hx (hb hby at_158) rfl (q := 160) rfl ?_
                    refine own_goto X1189 hx (hb hby at_160) (q := 165) (by decide) (by decide) ?_
                    simp only [own_M0_155, if_pos hc155_1196] at J1199
                    exact J1199
                  · refine own_icY X1189 hx (hb hby at_155) (feq hc155_1196).2 (q := 163) (by decide) (by decide) ?_
                    refine own_iload X1189 hx (hb hby at_163) rfl (q := 165) rfl ?_
                    simp only [own_M0_155, if_neg hc155_1196] at J1199
                    exact J1199
                simp only [own_M0_144, if_neg hc144_1194] at J1201
                exact J1201
            refine own_istore X1189 hx (hb hby at_165) (l' := #[.val (.int p0), .val (.int p1), .val (.int p2), .val (.int p3), .val (.long q4), .second, .val (.int p5), .val (.int (own_F1 p1 (own_F1 p2 p3))), .val (.int (own_F2 p1 (own_F2 p2 p3))), .val (.int (own_F2 (own_F1 p1 p2) (own_F1 (own_F2 p1 p2) p3))), .val (.int (2 : Int32)), .val (.ref b1182), .val (.int (p5 &&& (15 : Int32))), .unset, .unset, .val (.int ((p5 &&& (15 : Int32)) / (3 : Int32))), .val (.int (own_M0_144 p1 p2 p3 p5)), .unset]) rfl (q := 167) rfl ?_
            refine own_iload X1189 hx (hb hby at_167) rfl (q := 169) rfl ?_
            refine own_i2l X1189 hx (hb hby at_169) (q := 170) rfl ?_
            refine own_iload X1189 hx (hb hby at_170) rfl (q := 172) rfl ?_
            refine own_iconst X1189 hx (hb hby at_172) (z := 3) rfl (q := 173) rfl ?_
            refine own_irem X1189 hx (hb hby at_173) (by decide) (q := 174) rfl ?_
            refine own_i2l X1189 hx (hb hby at_174) (q := 175) rfl ?_
            refine own_ladd X1189 hx (hb hby at_175) (q := 176) rfl ?_
            refine own_lconst X1189 hx (hb hby at_176) (z := 1) rfl (q := 177) rfl ?_
            refine own_lsub X1189 hx (hb hby at_177) (q := 178) rfl ?_
            refine own_lstore X1189 hx (hb hby at_178) (l' := #[.val (.int p0), .val (.int p1), .val (.int p2), .val (.int p3), .val (.long q4), .second, .val (.int p5), .val (.int (own_F1 p1 (own_F1 p2 p3))), .val (.int (own_F2 p1 (own_F2 p2 p3))), .val (.int (own_F2 (own_F1 p1 p2) (own_F1 (own_F2 p1 p2) p3))), .val (.int (2 : Int32)), .val (.ref b1182), .val (.int (p5 &&& (15 : Int32))), .val (.long ((((own_M0_144 p1 p2 p3 p5).toInt64) + (((p5 &&& (15 : Int32)) % (3 : Int32)).toInt64)) - (1 : Int64))), .second, .val (.int ((p5 &&& (15 : Int32)) / (3 : Int32))), .val (.int (own_M0_144 p1 p2 p3 p5)), .unset]) rfl (q := 180) rfl ?_
            refine own_goto X1189 hx (hb hby at_180) (q := 187) (by decide) (by decide) ?_
            simp only [own_M0_133, if_pos hc133_1193] at J1204
            exact J1204
          · refine own_icY X1189 hx (hb hby at_133) (flt hc133_1193).2.1 (q := 183) (by decide) (by decide) ?_
            refine own_lload X1189 hx (hb hby at_183) rfl (q := 185) rfl ?_
            refine own_lstore X1189 hx (hb hby at_185) (l' := #[.val (.int p0), .val (.int p1), .val (.int p2), .val (.int p3), .val (.long q4), .second, .val (.int p5), .val (.int (own_F1 p1 (own_F1 p2 p3))), .val (.int (own_F2 p1 (own_F2 p2 p3))), .val (.int (own_F2 (own_F1 p1 p2) (own_F1 (own_F2 p1 p2) p3))), .val (.int (2 : Int32)), .val (.ref b1182), .val (.int (p5 &&& (15 : Int32))), .val (.long q4), .second, .unset, .unset, .unset]) rfl (q := 187) rfl ?_
            simp only [own_M0_133, if_neg hc133_1193] at J1204
            exact J1204
        obtain ⟨T1205, h1205, X1205, e1205, E1205, A1205, D1205, -, st1205⟩ := newO X1189 hx hZ hown (hw _ (List.mem_of_getElem? (i := 8) rfl)) (hw _ (List.mem_of_getElem? (i := 9) rfl)) (hw _ (List.mem_of_getElem? (i := 10) rfl)) e1189 (g := (mkF m 187 #[.val (.int p0), .val (.int p1), .val (.int p2), .val (.int p3), .val (.long q4), .second, .val (.int p5), .val (.int (own_F1 p1 (own_F1 p2 p3))), .val (.int (own_F2 p1 (own_F2 p2 p3))), .val (.int (own_F2 (own_F1 p1 p2) (own_F1 (own_F2 p1 p2) p3))), .val (.int (2 : Int32)), .val (.ref b1182), .val (.int (p5 &&& (15 : Int32))), .val (.long (own_M0_133 p1 p2 p3 q4 p5)), .second, (if (p5 &&& (15 : Int32)) < (9 : Int32) then (Slot.val (.int ((p5 &&& (15 : Int32)) / (3 : Int32)))) else (Slot.unset)), (if (p5 &&& (15 : Int32)) < (9 : Int32) then (Slot.val (.int (own_M0_144 p1 p2 p3 p5))) else (Slot.unset)), .unset] [])) rfl (hb hby at_187) (by decide) (by decide)
        obtain ⟨b1205, g1205⟩ : ∃ z, z = h1189.size := ⟨_, rfl⟩
        have ne_b1182_b1205 : b1182 ≠ b1205 := Nat.ne_of_lt (Nat.lt_of_lt_of_le Ex1182_1191.lt (Nat.le_of_eq g1205.symm))
        have g_b1205 : n0 ≤ b1205 := Nat.le_trans Z1192 (Nat.le_of_eq g1205.symm)
        have Z1206 := Nat.le_trans Z1192 E1205.1
        rw [← g1205] at A1205 D1205 st1205
        have S_dc_1207 := S_dc_1190.ext E1205
        have Ex1182_1208 := Ex1182_1191.ext E1205
        have V_b1182_1209 := V_b1182_1189.ext E1205
        have F_b1205_constraints : Fld Z h1205 b1205 "com/example/arcwise/arcwise/network/Variable" "constraints" "Ljava/util/List;" .null := D1205 (Or.inr (hw _ (List.mem_of_getElem? (i := 65) rfl))) (ty := (.object "java/util/List")) (by decide)
        have F_b1205_index : Fld Z h1205 b1205 "com/example/arcwise/arcwise/network/Variable" "index" "I" (.int (0 : Int32)) := D1205 (Or.inr (hw _ (List.mem_of_getElem? (i := 67) rfl))) (ty := .int) (by decide)
        have F_b1205_name : Fld Z h1205 b1205 "com/example/arcwise/arcwise/network/Variable" "name" "Ljava/lang/String;" .null := D1205 (Or.inr (hw _ (List.mem_of_getElem? (i := 69) rfl))) (ty := (.object "java/lang/String")) (by decide)
        have F_b1205_values : Fld Z h1205 b1205 "com/example/arcwise/arcwise/network/Variable" "values" "[I" .null := D1205 (Or.inr (hw _ (List.mem_of_getElem? (i := 80) rfl))) (ty := (.array .int)) (by decide)
        have F_b1205_domain : Fld Z h1205 b1205 "com/example/arcwise/arcwise/network/Variable" "domain" "Lcom/example/arcwise/arcwise/network/Domain;" .null := D1205 (Or.inr (hw _ (List.mem_of_getElem? (i := 98) rfl))) (ty := (.object "com/example/arcwise/arcwise/network/Domain")) (by decide)
        have F_b1205_assignmentListeners : Fld Z h1205 b1205 "com/example/arcwise/arcwise/network/Variable" "assignmentListeners" "Ljava/util/List;" .null := D1205 (Or.inr (hw _ (List.mem_of_getElem? (i := 100) rfl))) (ty := (.object "java/util/List")) (by decide)
        refine own_back st1205 ?_
        show own_End p e below s _ _ _ (T1205.setTop (mkF m 190 #[.val (.int p0), .val (.int p1), .val (.int p2), .val (.int p3), .val (.long q4), .second, .val (.int p5), .val (.int (own_F1 p1 (own_F1 p2 p3))), .val (.int (own_F2 p1 (own_F2 p2 p3))), .val (.int (own_F2 (own_F1 p1 p2) (own_F1 (own_F2 p1 p2) p3))), .val (.int (2 : Int32)), .val (.ref b1182), .val (.int (p5 &&& (15 : Int32))), .val (.long (own_M0_133 p1 p2 p3 q4 p5)), .second, (if (p5 &&& (15 : Int32)) < (9 : Int32) then (Slot.val (.int ((p5 &&& (15 : Int32)) / (3 : Int32)))) else (Slot.unset)), (if (p5 &&& (15 : Int32)) < (9 : Int32) then (Slot.val (.int (own_M0_144 p1 p2 p3 p5))) else (Slot.unset)), .unset] [(.ref b1205)])) ReturnedEndW
        refine own_dup X1205 hx (hb hby at_190) rfl (q := 191) rfl ?_
        refine own_iconst X1205 hx (hb hby at_191) (z := 0) rfl (q := 192) rfl ?_
        obtain ⟨as1210, T1210, h1210, k11210, X1210, e1210, E1210, hS1210, hk1210, hZ, hown, -, -, st1210⟩ := ldcOH (EL := []) (s := s) (vm0 := s.vm) X1205 hx hZ hown (hw _ (List.mem_of_getElem? (i := 11) rfl)) (own_sat hw) e1205 own_since0 (Nat.zero_le _) EW.nil own_chv0 (g := (mkF m 192 #[.val (.int p0), .val (.int p1), .val (.int p2), .val (.int p3), .val (.long q4), .second, .val (.int p5), .val (.int (own_F1 p1 (own_F1 p2 p3))), .val (.int (own_F2 p1 (own_F2 p2 p3))), .val (.int (own_F2 (own_F1 p1 p2) (own_F1 (own_F2 p1 p2) p3))), .val (.int (2 : Int32)), .val (.ref b1182), .val (.int (p5 &&& (15 : Int32))), .val (.long (own_M0_133 p1 p2 p3 q4 p5)), .second, (if (p5 &&& (15 : Int32)) < (9 : Int32) then (Slot.val (.int ((p5 &&& (15 : Int32)) / (3 : Int32)))) else (Slot.unset)), (if (p5 &&& (15 : Int32)) < (9 : Int32) then (Slot.val (.int (own_M0_144 p1 p2 p3 p5))) else (Slot.unset)), .unset] [(.int (0 : Int32)), (.ref b1205), (.ref b1205)])) rfl (hb hby at_192) (n := 4) (by decide) (by decide) (by decide) (by decide)
        have Z1211 := Nat.le_trans Z1206 E1210.1
        have S_dc_1212 := S_dc_1207.ext E1210
        have Ex1182_1213 := Ex1182_1208.ext E1210
        have V_b1182_1214 := V_b1182_1209.ext E1210
        have A1205_1215 := A1205.ext E1210
        have F_b1205_constraints_1216 := F_b1205_constraints.ext E1210
        have F_b1205_index_1217 := F_b1205_index.ext E1210
        have F_b1205_name_1218 := F_b1205_name.ext E1210
        have F_b1205_values_1219 := F_b1205_values.ext E1210
        have F_b1205_domain_1220 := F_b1205_domain.ext E1210
        have F_b1205_assignmentListeners_1221 := F_b1205_assignmentListeners.ext E1210
        refine own_back st1210 ?_
        show own_End p e below s _ _ _ (T1210.setTop (mkF m 194 #[.val (.int p0), .val (.int p1), .val (.int p2), .val (.int p3), .val (.long q4), .second, .val (.int p5), .val (.int (own_F1 p1 (own_F1 p2 p3))), .val (.int (own_F2 p1 (own_F2 p2 p3))), .val (.int (own_F2 (own_F1 p1 p2) (own_F1 (own_F2 p1 p2) p3))), .val (.int (2 : Int32)), .val (.ref b1182), .val (.int (p5 &&& (15 : Int32))), .val (.long (own_M0_133 p1 p2 p3 q4 p5)), .second, (if (p5 &&& (15 : Int32)) < (9 : Int32) then (Slot.val (.int ((p5 &&& (15 : Int32)) / (3 : Int32)))) else (Slot.unset)), (if (p5 &&& (15 : Int32)) < (9 : Int32) then (Slot.val (.int (own_M0_144 p1 p2 p3 p5))) else (Slot.unset)), .unset] [(.ref as1210), (.int (0 : Int32)), (.ref b1205), (.ref b1205)])) ReturnedEndW
        refine own_aload X1210 hx (hb hby at_194) rfl rfl (q := 196) rfl ?_
        obtain ⟨T1222, h1222, X1222, e1222, E1222, A1222, D1222, -, st1222⟩ := newO X1210 hx hZ hown (hw _ (List.mem_of_getElem? (i := 19) rfl)) (hw _ (List.mem_of_getElem? (i := 20) rfl)) (hw _ (List.mem_of_getElem? (i := 21) rfl)) e1210 (g := (mkF m 196 #[.val (.int p0), .val (.int p1), .val (.int p2), .val (.int p3), .val (.long q4), .second, .val (.int p5), .val (.int (own_F1 p1 (own_F1 p2 p3))), .val (.int (own_F2 p1 (own_F2 p2 p3))), .val (.int (own_F2 (own_F1 p1 p2) (own_F1 (own_F2 p1 p2) p3))), .val (.int (2 : Int32)), .val (.ref b1182), .val (.int (p5 &&& (15 : Int32))), .val (.long (own_M0_133 p1 p2 p3 q4 p5)), .second, (if (p5 &&& (15 : Int32)) < (9 : Int32) then (Slot.val (.int ((p5 &&& (15 : Int32)) / (3 : Int32)))) else (Slot.unset)), (if (p5 &&& (15 : Int32)) < (9 : Int32) then (Slot.val (.int (own_M0_144 p1 p2 p3 p5))) else (Slot.unset)), .unset] [(.ref b1182), (.ref as1210), (.int (0 : Int32)), (.ref b1205), (.ref b1205)])) rfl (hb hby at_196) (by decide) (by decide)
        obtain ⟨b1222, g1222⟩ : ∃ z, z = h1210.size := ⟨_, rfl⟩
        have ne_b1182_b1222 : b1182 ≠ b1222 := Nat.ne_of_lt (Nat.lt_of_lt_of_le Ex1182_1213.lt (Nat.le_of_eq g1222.symm))
        have ne_b1205_b1222 : b1205 ≠ b1222 := Nat.ne_of_lt (Nat.lt_of_lt_of_le A1205_1215.lt (Nat.le_of_eq g1222.symm))
        have g_b1222 : n0 ≤ b1222 := Nat.le_trans Z1211 (Nat.le_of_eq g1222.symm)
        have Z1223 := Nat.le_trans Z1211 E1222.1
        have kZ1223 := Nat.le_trans hk1210 E1222.1
        rw [← g1222] at A1222 D1222 st1222
        have S_dc_1224 := S_dc_1212.ext E1222
        have Ex1182_1225 := Ex1182_1213.ext E1222
        have V_b1182_1226 := V_b1182_1214.ext E1222
        have A1205_1227 := A1205_1215.ext E1222
        have F_b1205_constraints_1228 := F_b1205_constraints_1216.ext E1222
        have F_b1205_index_1229 := F_b1205_index_1217.ext E1222
        have F_b1205_name_1230 := F_b1205_name_1218.ext E1222
        have F_b1205_values_1231 := F_b1205_values_1219.ext E1222
        have F_b1205_domain_1232 := F_b1205_domain_1220.ext E1222
        have F_b1205_assignmentListeners_1233 := F_b1205_assignmentListeners_1221.ext E1222
        have F_b1222_domains : Fld Z h1222 b1222 "com/example/arcwise/arcwise/network/Trail" "domains" "[Lcom/example/arcwise/arcwise/network/Domain;" .null := D1222 (Or.inl (hw _ (List.mem_of_getElem? (i := 31) rfl))) (ty := (.array (.object "com/example/arcwise/arcwise/network/Domain"))) (by decide)
        have F_b1222_indexes : Fld Z h1222 b1222 "com/example/arcwise/arcwise/network/Trail" "indexes" "[I" .null := D1222 (Or.inl (hw _ (List.mem_of_getElem? (i := 33) rfl))) (ty := (.array .int)) (by decide)
        refine own_back st1222 ?_
        show own_End p e below s _ _ _ (T1222.setTop (mkF m 199 #[.val (.int p0), .val (.int p1), .val (.int p2), .val (.int p3), .val (.long q4), .second, .val (.int p5), .val (.int (own_F1 p1 (own_F1 p2 p3))), .val (.int (own_F2 p1 (own_F2 p2 p3))), .val (.int (own_F2 (own_F1 p1 p2) (own_F1 (own_F2 p1 p2) p3))), .val (.int (2 : Int32)), .val (.ref b1182), .val (.int (p5 &&& (15 : Int32))), .val (.long (own_M0_133 p1 p2 p3 q4 p5)), .second, (if (p5 &&& (15 : Int32)) < (9 : Int32) then (Slot.val (.int ((p5 &&& (15 : Int32)) / (3 : Int32)))) else (Slot.unset)), (if (p5 &&& (15 : Int32)) < (9 : Int32) then (Slot.val (.int (own_M0_144 p1 p2 p3 p5))) else (Slot.unset)), .unset] [(.ref b1222), (.ref b1182), (.ref as1210), (.int (0 : Int32)), (.ref b1205), (.ref b1205)])) ReturnedEndW
        refine own_dup X1222 hx (hb hby at_199) rfl (q := 200) rfl ?_
        obtain ⟨T1234, Lc1234, L1234, X1234, N1234, hQ1234, st1234⟩ := own_shutV (val := none) (Q := own_Q3 Z b1222 .null .null h1222 n0) (rc := 2) (rs := 512) N1189 (fun _ _ _ q => ⟨q.1, q.2.1⟩) (X1222.specialBack hx (y := (⟨"com/example/arcwise/arcwise/network/Trail", "<init>", "()V"⟩ : MethodName)) rfl hown (mvT hZ (hw _ (List.mem_of_getElem? (i := 22) rfl))) (mvT hZ (hw _ (List.mem_of_getElem? (i := 23) rfl))) (mvT hZ (hw _ (List.mem_of_getElem? (i := 24) rfl))) (by decide) (backOf (W := 6) (own_rm3 l Z a0 hw [] b1222 .null .null h1222 n0 Z1223 A1222 F_b1222_domains F_b1222_indexes g_b1222) hZ (hw _ (List.mem_of_getElem? (i := 24) rfl)) (hw _ (List.mem_of_getElem? (i := 21) rfl)) (by decide) (by decide)) (g := (mkF m 200 #[.val (.int p0), .val (.int p1), .val (.int p2), .val (.int p3), .val (.long q4), .second, .val (.int p5), .val (.int (own_F1 p1 (own_F1 p2 p3))), .val (.int (own_F2 p1 (own_F2 p2 p3))), .val (.int (own_F2 (own_F1 p1 p2) (own_F1 (own_F2 p1 p2) p3))), .val (.int (2 : Int32)), .val (.ref b1182), .val (.int (p5 &&& (15 : Int32))), .val (.long (own_M0_133 p1 p2 p3 q4 p5)), .second, (if (p5 &&& (15 : Int32)) < (9 : Int32) then (Slot.val (.int ((p5 &&& (15 : Int32)) / (3 : Int32)))) else (Slot.unset)), (if (p5 &&& (15 : Int32)) < (9 : Int32) then (Slot.val (.int (own_M0_144 p1 p2 p3 p5))) else (Slot.unset)), .unset] [(.ref b1222), (.ref b1222), (.ref b1182), (.ref as1210), (.int (0 : Int32)), (.ref b1205), (.ref b1205)])) rfl (by rw [hml]; rfl) (Steps.refl _) (a := b1222) (argsL := []) (rest := [(.ref b1222), (.ref b1182), (.ref as1210), (.int (0 : Int32)), (.ref b1205), (.ref b1205)]) (lenOf own_pd0 rfl) rfl (by show 2 * 0 + _ ≤ _; exact Nat.le_of_eq rfl) (hb hby at_200) (fun _ _ => ⟨rfl, e1222, (by decide : 5 + 2 ≤ _), (by decide : 21 + 512 ≤ _)⟩))
        obtain ⟨-, -, K1234, Q1234_0⟩ := hQ1234
        have S_dc_1235 := own_StaK S_dc_1224 K1234 (allS (P := fun o => ∃ C, Exa Z _ o C) ⟨_, A1222⟩ all0)
        have Ex1182_1236 := Ex1182_1225.keep K1234
        have V_b1182_1237 := V_b1182_1226.keep K1234 (ninS ne_b1182_b1222 nin0)
        have A1205_1238 := A1205_1227.keep K1234
        have F_b1205_constraints_1239 := F_b1205_constraints_1228.keep K1234 (ninS ne_b1205_b1222 nin0)
        have F_b1205_index_1240 := F_b1205_index_1229.keep K1234 (ninS ne_b1205_b1222 nin0)
        have F_b1205_name_1241 := F_b1205_name_1230.keep K1234 (ninS ne_b1205_b1222 nin0)
        have F_b1205_values_1242 := F_b1205_values_1231.keep K1234 (ninS ne_b1205_b1222 nin0)
        have F_b1205_domain_1243 := F_b1205_domain_1232.keep K1234 (ninS ne_b1205_b1222 nin0)
        have F_b1205_assignmentListeners_1244 := F_b1205_assignmentListeners_1233.keep K1234 (ninS ne_b1205_b1222 nin0)
        have A1222_1245 := A1222.keep K1234
        have Z1246 := Nat.le_trans Z1223 K1234.1
        have kZ1246 := Nat.le_trans kZ1223 K1234.1
        refine own_via st1234 ?_
        show own_End p e below s _ _ _ (T1234.setTop (mkF m 203 #[.val (.int p0), .val (.int p1), .val (.int p2), .val (.int p3), .val (.long q4), .second, .val (.int p5), .val (.int (own_F1 p1 (own_F1 p2 p3))), .val (.int (own_F2 p1 (own_F2 p2 p3))), .val (.int (own_F2 (own_F1 p1 p2) (own_F1 (own_F2 p1 p2) p3))), .val (.int (2 : Int32)), .val (.ref b1182), .val (.int (p5 &&& (15 : Int32))), .val (.long (own_M0_133 p1 p2 p3 q4 p5)), .second, (if (p5 &&& (15 : Int32)) < (9 : Int32) then (Slot.val (.int ((p5 &&& (15 : Int32)) / (3 : Int32)))) else (Slot.unset)), (if (p5 &&& (15 : Int32)) < (9 : Int32) then (Slot.val (.int (own_M0_144 p1 p2 p3 p5))) else (Slot.unset)), .unset] [(.ref b1222), (.ref b1182), (.ref as1210), (.int (0 : Int32)), (.ref b1205), (.ref b1205)])) ReturnedEndW
        obtain ⟨T1247, h1247, X1247, e1247, E1247, A1247, D1247, -, st1247⟩ := newO X1234 hx hZ hown (hw _ (List.mem_of_getElem? (i := 34) rfl)) (hw _ (List.mem_of_getElem? (i := 35) rfl)) (hw _ (List.mem_of_getElem? (i := 36) rfl)) rfl (g := (mkF m 203 #[.val (.int p0), .val (.int p1), .val (.int p2), .val (.int p3), .val (.long q4), .second, .val (.int p5), .val (.int (own_F1 p1 (own_F1 p2 p3))), .val (.int (own_F2 p1 (own_F2 p2 p3))), .val (.int (own_F2 (own_F1 p1 p2) (own_F1 (own_F2 p1 p2) p3))), .val (.int (2 : Int32)), .val (.ref b1182), .val (.int (p5 &&& (15 : Int32))), .val (.long (own_M0_133 p1 p2 p3 q4 p5)), .second, (if (p5 &&& (15 : Int32)) < (9 : Int32) then (Slot.val (.int ((p5 &&& (15 : Int32)) / (3 : Int32)))) else (Slot.unset)), (if (p5 &&& (15 : Int32)) < (9 : Int32) then (Slot.val (.int (own_M0_144 p1 p2 p3 p5))) else (Slot.unset)), .unset] [(.ref b1222), (.ref b1182), (.ref as1210), (.int (0 : Int32)), (.ref b1205), (.ref b1205)])) rfl (hb hby at_203) (by decide) (by decide)
        obtain ⟨b1247, g1247⟩ : ∃ z, z = T1234.heap.size := ⟨_, rfl⟩
        have ne_b1182_b1247 : b1182 ≠ b1247 := Nat.ne_of_lt (Nat.lt_of_lt_of_le Ex1182_1236.lt (Nat.le_of_eq g1247.symm))
        have ne_b1205_b1247 : b1205 ≠ b1247 := Nat.ne_of_lt (Nat.lt_of_lt_of_le A1205_1238.lt (Nat.le_of_eq g1247.symm))
        have ne_b1222_b1247 : b1222 ≠ b1247 := Nat.ne_of_lt (Nat.lt_of_lt_of_le Q1234_0.lt (Nat.le_of_eq g1247.symm))
        have g_b1247 : n0 ≤ b1247 := Nat.le_trans Z1246 (Nat.le_of_eq g1247.symm)
        have Z1248 := Nat.le_trans Z1246 E1247.1
        have kZ1248 := Nat.le_trans kZ1246 E1247.1
        rw [← g1247] at A1247 D1247 st1247
        have S_dc_1249 := S_dc_1235.ext E1247
        have Ex1182_1250 := Ex1182_1236.ext E1247
        have V_b1182_1251 := V_b1182_1237.ext E1247
        have A1205_1252 := A1205_1238.ext E1247
        have F_b1205_constraints_1253 := F_b1205_constraints_1239.ext E1247
        have F_b1205_index_1254 := F_b1205_index_1240.ext E1247
        have F_b1205_name_1255 := F_b1205_name_1241.ext E1247
        have F_b1205_values_1256 := F_b1205_values_1242.ext E1247
        have F_b1205_domain_1257 := F_b1205_domain_1243.ext E1247
        have F_b1205_assignmentListeners_1258 := F_b1205_assignmentListeners_1244.ext E1247
        have Q1234_1259 := Q1234_0.ext E1247
        have F_b1247_modCount : Fld Z h1247 b1247 "java/util/AbstractList" "modCount" "I" (.int (0 : Int32)) := D1247 (Or.inl (hw _ (List.mem_of_getElem? (i := 54) rfl))) (ty := .int) (by decide)
        have F_b1247_elementData : Fld Z h1247 b1247 "java/util/ArrayList" "elementData" "[Ljava/lang/Object;" .null := D1247 (Or.inl (hw _ (List.mem_of_getElem? (i := 57) rfl))) (ty := (.array (.object "java/lang/Object"))) (by decide)
        refine own_back st1247 ?_
        show own_End p e below s _ _ _ (T1247.setTop (mkF m 206 #[.val (.int p0), .val (.int p1), .val (.int p2), .val (.int p3), .val (.long q4), .second, .val (.int p5), .val (.int (own_F1 p1 (own_F1 p2 p3))), .val (.int (own_F2 p1 (own_F2 p2 p3))), .val (.int (own_F2 (own_F1 p1 p2) (own_F1 (own_F2 p1 p2) p3))), .val (.int (2 : Int32)), .val (.ref b1182), .val (.int (p5 &&& (15 : Int32))), .val (.long (own_M0_133 p1 p2 p3 q4 p5)), .second, (if (p5 &&& (15 : Int32)) < (9 : Int32) then (Slot.val (.int ((p5 &&& (15 : Int32)) / (3 : Int32)))) else (Slot.unset)), (if (p5 &&& (15 : Int32)) < (9 : Int32) then (Slot.val (.int (own_M0_144 p1 p2 p3 p5))) else (Slot.unset)), .unset] [(.ref b1247), (.ref b1222), (.ref b1182), (.ref as1210), (.int (0 : Int32)), (.ref b1205), (.ref b1205)])) ReturnedEndW
        refine own_dup X1247 hx (hb hby at_206) rfl (q := 207) rfl ?_
        obtain ⟨T1260, Lc1260, L1260, X1260, N1260, hQ1260, st1260⟩ := own_shutV (val := none) (Q := own_Q5 Z b1247 (0 : Int32) .null sa h1247 n0) (rc := 0) (rs := 0) N1234 (fun _ _ _ q => ⟨q.1, q.2.1⟩) (X1247.specialBack hx (y := (⟨"java/util/ArrayList", "<init>", "()V"⟩ : MethodName)) rfl hown (mvT hZ (hw _ (List.mem_of_getElem? (i := 37) rfl))) (mvT hZ (hw _ (List.mem_of_getElem? (i := 38) rfl))) (mvT hZ (hw _ (List.mem_of_getElem? (i := 39) rfl))) (by decide) (backOf (W := 7) (own_rm5 l Z a0 hw [] b1247 (0 : Int32) .null sa h1247 n0 Z1248 A1247 F_b1247_modCount F_b1247_elementData S_dc_1249 g_b1247) hZ (hw _ (List.mem_of_getElem? (i := 39) rfl)) (hw _ (List.mem_of_getElem? (i := 36) rfl)) (by decide) (by decide)) (g := (mkF m 207 #[.val (.int p0), .val (.int p1), .val (.int p2), .val (.int p3), .val (.long q4), .second, .val (.int p5), .val (.int (own_F1 p1 (own_F1 p2 p3))), .val (.int (own_F2 p1 (own_F2 p2 p3))), .val (.int (own_F2 (own_F1 p1 p2) (own_F1 (own_F2 p1 p2) p3))), .val (.int (2 : Int32)), .val (.ref b1182), .val (.int (p5 &&& (15 : Int32))), .val (.long (own_M0_133 p1 p2 p3 q4 p5)), .second, (if (p5 &&& (15 : Int32)) < (9 : Int32) then (Slot.val (.int ((p5 &&& (15 : Int32)) / (3 : Int32)))) else (Slot.unset)), (if (p5 &&& (15 : Int32)) < (9 : Int32) then (Slot.val (.int (own_M0_144 p1 p2 p3 p5))) else (Slot.unset)), .unset] [(.ref b1247), (.ref b1247), (.ref b1222), (.ref b1182), (.ref as1210), (.int (0 : Int32)), (.ref b1205), (.ref b1205)])) rfl (by rw [hml]; rfl) (Steps.refl _) (a := b1247) (argsL := []) (rest := [(.ref b1247), (.ref b1222), (.ref b1182), (.ref as1210), (.int (0 : Int32)), (.ref b1205), (.ref b1205)]) (lenOf own_pd0 rfl) rfl (by show 2 * 0 + _ ≤ _; exact Nat.le_of_eq rfl) (hb hby at_207) (fun _ _ => ⟨rfl, e1247, (by decide : 8 + 0 ≤ _), (by decide : 536 + 0 ≤ _)⟩))
        obtain ⟨-, -, K1260, Q1260_0⟩ := hQ1260
        have S_dc_1261 := own_StaK S_dc_1249 K1260 (allS (P := fun o => ∃ C, Exa Z _ o C) ⟨_, A1247⟩ all0)
        have Ex1182_1262 := Ex1182_1250.keep K1260
        have V_b1182_1263 := V_b1182_1251.keep K1260 (ninS ne_b1182_b1247 nin0)
        have A1205_1264 := A1205_1252.keep K1260
        have F_b1205_constraints_1265 := F_b1205_constraints_1253.keep K1260 (ninS ne_b1205_b1247 nin0)
        have F_b1205_index_1266 := F_b1205_index_1254.keep K1260 (ninS ne_b1205_b1247 nin0)
        have F_b1205_name_1267 := F_b1205_name_1255.keep K1260 (ninS ne_b1205_b1247 nin0)
        have F_b1205_values_1268 := F_b1205_values_1256.keep K1260 (ninS ne_b1205_b1247 nin0)
        have F_b1205_domain_1269 := F_b1205_domain_1257.keep K1260 (ninS ne_b1205_b1247 nin0)
        have F_b1205_assignmentListeners_1270 := F_b1205_assignmentListeners_1258.keep K1260 (ninS ne_b1205_b1247 nin0)
        have Q1234_1271 := Q1234_1259.keep K1260
        have A1247_1272 := A1247.keep K1260
        have Z1273 := Nat.le_trans Z1248 K1260.1
        have kZ1273 := Nat.le_trans kZ1248 K1260.1
        refine own_via st1260 ?_
        show own_End p e below s _ _ _ (T1260.setTop (mkF m 210 #[.val (.int p0), .val (.int p1), .val (.int p2), .val (.int p3), .val (.long q4), .second, .val (.int p5), .val (.int (own_F1 p1 (own_F1 p2 p3))), .val (.int (own_F2 p1 (own_F2 p2 p3))), .val (.int (own_F2 (own_F1 p1 p2) (own_F1 (own_F2 p1 p2) p3))), .val (.int (2 : Int32)), .val (.ref b1182), .val (.int (p5 &&& (15 : Int32))), .val (.long (own_M0_133 p1 p2 p3 q4 p5)), .second, (if (p5 &&& (15 : Int32)) < (9 : Int32) then (Slot.val (.int ((p5 &&& (15 : Int32)) / (3 : Int32)))) else (Slot.unset)), (if (p5 &&& (15 : Int32)) < (9 : Int32) then (Slot.val (.int (own_M0_144 p1 p2 p3 p5))) else (Slot.unset)), .unset] [(.ref b1247), (.ref b1222), (.ref b1182), (.ref as1210), (.int (0 : Int32)), (.ref b1205), (.ref b1205)])) ReturnedEndW
        obtain ⟨T1274, Lc1274, L1274, X1274, N1274, hQ1274, st1274⟩ := own_shutV (val := none) (Q := own_Q8_2 Z b1205 (0 : Int32) as1210 b1182 b1222 b1247 .null (0 : Int32) .null .null .null .null k1182 (own_F1 p1 (own_F1 p2 p3)) (own_F2 p1 (own_F2 p2 p3)) sa T1260.heap n0) (rc := 4) (rs := 11) N1260 (fun _ _ _ q => ⟨q.1, q.2.1⟩) (X1260.specialBack hx (y := (⟨"com/example/arcwise/arcwise/network/Variable", "<init>", "(ILjava/lang/String;[ILcom/example/arcwise/arcwise/network/Trail;Ljava/util/List;)V"⟩ : MethodName)) rfl hown (mvT hZ (hw _ (List.mem_of_getElem? (i := 58) rfl))) (mvT hZ (hw _ (List.mem_of_getElem? (i := 59) rfl))) (mvT hZ (hw _ (List.mem_of_getElem? (i := 60) rfl))) (by decide) (backOf (W := 1) (own_rm8_2 l Z a0 hw [] b1205 (0 : Int32) as1210 b1182 b1222 b1247 .null (0 : Int32) .null .null .null .null k1182 (own_F1 p1 (own_F1 p2 p3)) (own_F2 p1 (own_F2 p2 p3)) sa T1260.heap n0 Z1273 A1205_1264 F_b1205_constraints_1265 F_b1205_index_1266 F_b1205_name_1267 F_b1205_values_1268 F_b1205_domain_1269 F_b1205_assignmentListeners_1270 V_b1182_1263 Ex1182_1262 (Ne.symm ne_b1182_b1205) S_dc_1261 g_b1205) hZ (hw _ (List.mem_of_getElem? (i := 60) rfl)) (hw _ (List.mem_of_getElem? (i := 10) rfl)) (by decide) (by decide)) (g := (mkF m 210 #[.val (.int p0), .val (.int p1), .val (.int p2), .val (.int p3), .val (.long q4), .second, .val (.int p5), .val (.int (own_F1 p1 (own_F1 p2 p3))), .val (.int (own_F2 p1 (own_F2 p2 p3))), .val (.int (own_F2 (own_F1 p1 p2) (own_F1 (own_F2 p1 p2) p3))), .val (.int (2 : Int32)), .val (.ref b1182), .val (.int (p5 &&& (15 : Int32))), .val (.long (own_M0_133 p1 p2 p3 q4 p5)), .second, (if (p5 &&& (15 : Int32)) < (9 : Int32) then (Slot.val (.int ((p5 &&& (15 : Int32)) / (3 : Int32)))) else (Slot.unset)), (if (p5 &&& (15 : Int32)) < (9 : Int32) then (Slot.val (.int (own_M0_144 p1 p2 p3 p5))) else (Slot.unset)), .unset] [(.ref b1247), (.ref b1222), (.ref b1182), (.ref as1210), (.int (0 : Int32)), (.ref b1205), (.ref b1205)])) rfl (by rw [hml]; rfl) (Steps.refl _) (a := b1205) (argsL := [(.int (0 : Int32)), (.ref as1210), (.ref b1182), (.ref b1222), (.ref b1247)]) (rest := [(.ref b1205)]) (lenOf own_pd3 rfl) rfl (by show 2 * 0 + _ ≤ _; exact Nat.le_of_eq rfl) (hb hby at_210) (fun _ _ => ⟨rfl, rfl, (by decide : 8 + 4 ≤ _), (by decide : 536 + 11 ≤ _)⟩))
        obtain ⟨-, -, K1274, b1274_0, k1274_0, sb1274_0, Q1274_0, Q1274_1, Q1274_2, Q1274_3⟩ := hQ1274
        have ne_b1182_b1274_0 : b1182 ≠ b1274_0 := Nat.ne_of_lt (Nat.lt_of_lt_of_le Ex1182_1262.lt sb1274_0)
        have ne_b1205_b1274_0 : b1205 ≠ b1274_0 := Nat.ne_of_lt (Nat.lt_of_lt_of_le A1205_1264.lt sb1274_0)
        have ne_b1222_b1274_0 : b1222 ≠ b1274_0 := Nat.ne_of_lt (Nat.lt_of_lt_of_le Q1234_1271.lt sb1274_0)
        have ne_b1247_b1274_0 : b1247 ≠ b1274_0 := Nat.ne_of_lt (Nat.lt_of_lt_of_le Q1260_0.lt sb1274_0)
        have g_b1274_0 : n0 ≤ b1274_0 := Nat.le_trans Z1273 sb1274_0
        have S_dc_1275 := own_StaK S_dc_1261 K1274 (allS (P := fun o => ∃ C, Exa Z _ o C) ⟨_, A1205_1264⟩ all0)
        have Ex1182_1276 := Ex1182_1262.keep K1274
        have V_b1182_1277 := V_b1182_1263.keep K1274 (ninS ne_b1182_b1205 nin0)
        have A1205_1278 := A1205_1264.keep K1274
        have Q1234_1279 := Q1234_1271.keep K1274
        have Q1260_1280 := Q1260_0.keep K1274
        have Z1281 := Nat.le_trans Z1273 K1274.1
        have kZ1281 := Nat.le_trans kZ1273 K1274.1
        refine own_via st1274 ?_
        show own_End p e below s _ _ _ (T1274.setTop (mkF m 213 #[.val (.int p0), .val (.int p1), .val (.int p2), .val (.int p3), .val (.long q4), .second, .val (.int p5), .val (.int (own_F1 p1 (own_F1 p2 p3))), .val (.int (own_F2 p1 (own_F2 p2 p3))), .val (.int (own_F2 (own_F1 p1 p2) (own_F1 (own_F2 p1 p2) p3))), .val (.int (2 : Int32)), .val (.ref b1182), .val (.int (p5 &&& (15 : Int32))), .val (.long (own_M0_133 p1 p2 p3 q4 p5)), .second, (if (p5 &&& (15 : Int32)) < (9 : Int32) then (Slot.val (.int ((p5 &&& (15 : Int32)) / (3 : Int32)))) else (Slot.unset)), (if (p5 &&& (15 : Int32)) < (9 : Int32) then (Slot.val (.int (own_M0_144 p1 p2 p3 p5))) else (Slot.unset)), .unset] [(.ref b1205)])) ReturnedEndW
        refine own_astore X1274 hx (hb hby at_213) rfl (l' := #[.val (.int p0), .val (.int p1), .val (.int p2), .val (.int p3), .val (.long q4), .second, .val (.int p5), .val (.int (own_F1 p1 (own_F1 p2 p3))), .val (.int (own_F2 p1 (own_F2 p2 p3))), .val (.int (own_F2 (own_F1 p1 p2) (own_F1 (own_F2 p1 p2) p3))), .val (.int (2 : Int32)), .val (.ref b1182), .val (.int (p5 &&& (15 : Int32))), .val (.long (own_M0_133 p1 p2 p3 q4 p5)), .second, .val (.ref b1205), (if (p5 &&& (15 : Int32)) < (9 : Int32) then (Slot.val (.int (own_M0_144 p1 p2 p3 p5))) else (Slot.unset)), .unset]) (Or.elim (Classical.em ((p5 &&& (15 : Int32)) < (9 : Int32))) (fun hz0 => (by simp only [if_pos hz0]; rfl)) (fun hz0 => (by simp only [if_neg hz0]; rfl))) (q := 215) rfl ?_
        refine own_aload X1274 hx (hb hby at_215) rfl rfl (q := 217) rfl ?_
        refine own_lload X1274 hx (hb hby at_217) rfl (q := 219) rfl ?_
        obtain ⟨cq1282, kq1282, q1282a, q1282b, q1282c⟩ := isOf hZ rfl Q1274_0
        obtain ⟨T1282, Lc1282, L1282, X1282, N1282, hQ1282, st1282⟩ := own_shutV (val := some (.int (own_F10_2 (own_M0_133 p1 p2 p3 q4 p5) (own_F1 p1 (own_F1 p2 p3)) (own_F2 p1 (own_F2 p2 p3))))) (Q := own_Q10_2 Z b1205 (own_M0_133 p1 p2 p3 q4 p5) b1274_0 k1274_0 (own_F1 p1 (own_F1 p2 p3)) (own_F2 p1 (own_F2 p2 p3)) T1274.heap n0) (rc := 0) (rs := 0) N1274 (fun _ _ _ q => ⟨q.1, q.2.1⟩) (X1274.virtualBack hx (y := (⟨"com/example/arcwise/arcwise/network/Variable", "indexAtLeast", "(J)I"⟩ : MethodName)) (z := (⟨"com/example/arcwise/arcwise/network/Variable", "indexAtLeast", "(J)I"⟩ : MethodName)) hown (mvT hZ (hw _ (List.mem_of_getElem? (i := 101) rfl))) (mvT hZ (hw _ (List.mem_of_getElem? (i := 102) rfl))) (notFace_of_selects (args := #[]) (mvT hZ (hw _ (List.mem_of_getElem? (i := 104) rfl)))) (mvT hZ (hw _ (List.mem_of_getElem? (i := 104) rfl))) (mvT hZ (hw _ (List.mem_of_getElem? (i := 103) rfl))) (by decide) (backOf (W := 0) (own_rm10_2 l Z a0 hw [] b1205 (own_M0_133 p1 p2 p3 q4 p5) b1274_0 k1274_0 (own_F1 p1 (own_F1 p2 p3)) (own_F2 p1 (own_F2 p2 p3)) T1274.heap n0 Z1281 Q1274_0 Q1274_1 Q1274_3) hZ (hw _ (List.mem_of_getElem? (i := 105) rfl)) (hw _ (List.mem_of_getElem? (i := 10) rfl)) (by decide) (by decide)) q1282a q1282c (g := (mkF m 219 #[.val (.int p0), .val (.int p1), .val (.int p2), .val (.int p3), .val (.long q4), .second, .val (.int p5), .val (.int (own_F1 p1 (own_F1 p2 p3))), .val (.int (own_F2 p1 (own_F2 p2 p3))), .val (.int (own_F2 (own_F1 p1 p2) (own_F1 (own_F2 p1 p2) p3))), .val (.int (2 : Int32)), .val (.ref b1182), .val (.int (p5 &&& (15 : Int32))), .val (.long (own_M0_133 p1 p2 p3 q4 p5)), .second, .val (.ref b1205), (if (p5 &&& (15 : Int32)) < (9 : Int32) then (Slot.val (.int (own_M0_144 p1 p2 p3 p5))) else (Slot.unset)), .unset] [(.long (own_M0_133 p1 p2 p3 q4 p5)), (.ref b1205)])) rfl (by rw [hml]; rfl) (Steps.refl _) (argsL := [(.long (own_M0_133 p1 p2 p3 q4 p5))]) (rest := []) (lenOf own_pd4 rfl) rfl (by show 2 * 0 + _ ≤ _; exact Nat.le_of_eq rfl) (hb hby at_219) (fun _ _ => ⟨rfl, rfl, (by decide : 12 + 0 ≤ _), (by decide : 547 + 0 ≤ _)⟩))
        obtain ⟨-, -, e1282⟩ := hQ1282
        refine own_via st1282 ?_
        show own_End p e below s _ _ _ (T1282.setTop (mkF m 222 #[.val (.int p0), .val (.int p1), .val (.int p2), .val (.int p3), .val (.long q4), .second, .val (.int p5), .val (.int (own_F1 p1 (own_F1 p2 p3))), .val (.int (own_F2 p1 (own_F2 p2 p3))), .val (.int (own_F2 (own_F1 p1 p2) (own_F1 (own_F2 p1 p2) p3))), .val (.int (2 : Int32)), .val (.ref b1182), .val (.int (p5 &&& (15 : Int32))), .val (.long (own_M0_133 p1 p2 p3 q4 p5)), .second, .val (.ref b1205), (if (p5 &&& (15 : Int32)) < (9 : Int32) then (Slot.val (.int (own_M0_144 p1 p2 p3 p5))) else (Slot.unset)), .unset] [(.int (own_F10_2 (own_M0_133 p1 p2 p3 q4 p5) (own_F1 p1 (own_F1 p2 p3)) (own_F2 p1 (own_F2 p2 p3))))])) ReturnedEndW
        refine own_istore X1282 hx (hb hby at_222) (l' := #[.val (.int p0), .val (.int p1), .val (.int p2), .val (.int p3), .val (.long q4), .second, .val (.int p5), .val (.int (own_F1 p1 (own_F1 p2 p3))), .val (.int (own_F2 p1 (own_F2 p2 p3))), .val (.int (own_F2 (own_F1 p1 p2) (own_F1 (own_F2 p1 p2) p3))), .val (.int (2 : Int32)), .val (.ref b1182), .val (.int (p5 &&& (15 : Int32))), .val (.long (own_M0_133 p1 p2 p3 q4 p5)), .second, .val (.ref b1205), .val (.int (own_F10_2 (own_M0_133 p1 p2 p3 q4 p5) (own_F1 p1 (own_F1 p2 p3)) (own_F2 p1 (own_F2 p2 p3)))), .unset]) (Or.elim (Classical.em ((p5 &&& (15 : Int32)) < (9 : Int32))) (fun hz0 => (by simp only [if_pos hz0]; rfl)) (fun hz0 => (by simp only [if_neg hz0]; rfl))) (q := 224) rfl ?_
        refine own_iconst X1282 hx (hb hby at_224) (z := 0) rfl (q := 225) rfl ?_
        refine own_istore X1282 hx (hb hby at_225) (l' := #[.val (.int p0), .val (.int p1), .val (.int p2), .val (.int p3), .val (.long q4), .second, .val (.int p5), .val (.int (own_F1 p1 (own_F1 p2 p3))), .val (.int (own_F2 p1 (own_F2 p2 p3))), .val (.int (own_F2 (own_F1 p1 p2) (own_F1 (own_F2 p1 p2) p3))), .val (.int (2 : Int32)), .val (.ref b1182), .val (.int (p5 &&& (15 : Int32))), .val (.long (own_M0_133 p1 p2 p3 q4 p5)), .second, .val (.ref b1205), .val (.int (own_F10_2 (own_M0_133 p1 p2 p3 q4 p5) (own_F1 p1 (own_F1 p2 p3)) (own_F2 p1 (own_F2 p2 p3)))), .val (.int (0 : Int32))]) rfl (q := 227) rfl ?_
        refine own_iload X1282 hx (hb hby at_227) rfl (q := 229) rfl ?_
        refine own_ifN X1282 hx (hb hby at_229) (tlt (by decide : ((0 : Int32) < (2 : Int32)))).2.2.2 (q := 232) rfl ?_
        refine own_aload X1282 hx (hb hby at_232) rfl rfl (q := 234) rfl ?_
        refine own_iconst X1282 hx (hb hby at_234) (z := 0) rfl (q := 235) rfl ?_
        obtain ⟨cl1283, Ar1283, q1283, S1283, N1283v, H1283, G1283⟩ := id V_b1182_1277
        have hin1283 : ¬ ((0 : Int32) < 0 ∨ cl1283.slots.size ≤ ((0 : Int32)).toNatClampNeg) := inb_of S1283 ⟨by decide, by decide⟩
        refine own_back (X1282.iaload hx (j := (0 : Int32)) (v := (.int (own_F1 p1 (own_F1 p2 p3)))) (by rw [e1282]; exact Ar1283.1) (State.isArrayOf_alike hZ.alike Ar1283.2.1) Ar1283.2.2 hin1283 (Has.at H1283 hin1283 rfl) (g := (mkF m 235 #[.val (.int p0), .val (.int p1), .val (.int p2), .val (.int p3), .val (.long q4), .second, .val (.int p5), .val (.int (own_F1 p1 (own_F1 p2 p3))), .val (.int (own_F2 p1 (own_F2 p2 p3))), .val (.int (own_F2 (own_F1 p1 p2) (own_F1 (own_F2 p1 p2) p3))), .val (.int (2 : Int32)), .val (.ref b1182), .val (.int (p5 &&& (15 : Int32))), .val (.long (own_M0_133 p1 p2 p3 q4 p5)), .second, .val (.ref b1205), .val (.int (own_F10_2 (own_M0_133 p1 p2 p3 q4 p5) (own_F1 p1 (own_F1 p2 p3)) (own_F2 p1 (own_F2 p2 p3)))), .val (.int (0 : Int32))] [(.int (0 : Int32)), (.ref b1182)])) rfl rfl (hb hby at_235)) ?_
        show own_End p e below s _ _ _ (T1282.setTop (mkF m 236 #[.val (.int p0), .val (.int p1), .val (.int p2), .val (.int p3), .val (.long q4), .second, .val (.int p5), .val (.int (own_F1 p1 (own_F1 p2 p3))), .val (.int (own_F2 p1 (own_F2 p2 p3))), .val (.int (own_F2 (own_F1 p1 p2) (own_F1 (own_F2 p1 p2) p3))), .val (.int (2 : Int32)), .val (.ref b1182), .val (.int (p5 &&& (15 : Int32))), .val (.long (own_M0_133 p1 p2 p3 q4 p5)), .second, .val (.ref b1205), .val (.int (own_F10_2 (own_M0_133 p1 p2 p3 q4 p5) (own_F1 p1 (own_F1 p2 p3)) (own_F2 p1 (own_F2 p2 p3)))), .val (.int (0 : Int32))] [(.int (own_F1 p1 (own_F1 p2 p3)))])) ReturnedEndW
        refine own_i2l X1282 hx (hb hby at_236) (q := 237) rfl ?_
        refine own_lload X1282 hx (hb hby at_237) rfl (q := 239) rfl ?_
        suffices J1287 : own_End p e below s (own_Q0 Z p0 p1 p2 p3 q4 p5 sa h0 n0) room_1.cells room_1.slots (T1282.setTop (mkF m 246 #[.val (.int p0), .val (.int p1), .val (.int p2), .val (.int p3), .val (.long q4), .second, .val (.int p5), .val (.int (own_F1 p1 (own_F1 p2 p3))), .val (.int (own_F2 p1 (own_F2 p2 p3))), .val (.int (own_F2 (own_F1 p1 p2) (own_F1 (own_F2 p1 p2) p3))), .val (.int (2 : Int32)), .val (.ref b1182), .val (.int (p5 &&& (15 : Int32))), .val (.long (own_M0_133 p1 p2 p3 q4 p5)), .second, .val (.ref b1205), .val (.int (own_F10_2 (own_M0_133 p1 p2 p3 q4 p5) (own_F1 p1 (own_F1 p2 p3)) (own_F2 p1 (own_F2 p2 p3)))), .val (.int (own_M0_240 p1 p2 p3 q4 p5))] [])) ReturnedEndW by
          by_cases hc240_1284 : ((own_F1 p1 (own_F1 p2 p3)).toInt64) < (own_M0_133 p1 p2 p3 q4 p5)
          · refine own_lcN X1282 hx (hb hby at_239) (r := 240) rfl (hb hby at_240) (own_tlt hc240_1284).2.1 (q := 243) rfl ?_
            refine own_iinc X1282 hx (hb hby at_243) rfl (z := 1) rfl (l' := #[.val (.int p0), .val (.int p1), .val (.int p2), .val (.int p3), .val (.long q4), .second, .val (.int p5), .val (.int (own_F1 p1 (own_F1 p2 p3))), .val (.int (own_F2 p1 (own_F2 p2 p3))), .val (.int (own_F2 (own_F1 p1 p2) (own_F1 (own_F2 p1 p2) p3))), .val (.int (2 : Int32)), .val (.ref b1182), .val (.int (p5 &&& (15 : Int32))), .val (.long (own_M0_133 p1 p2 p3 q4 p5)), .second, .val (.ref b1205), .val (.int (own_F10_2 (own_M0_133 p1 p2 p3 q4 p5) (own_F1 p1 (own_F1 p2 p3)) (own_F2 p1 (own_F2 p2 p3)))), .val (.int (1 : Int32))]) rfl (q := 246) rfl ?_
            simp only [own_M0_240, if_pos hc240_1284] at J1287
            exact J1287
          · refine own_lcY X1282 hx (hb hby at_239) (r := 240) rfl (hb hby at_240) (own_flt hc240_1284).2.1 (q := 246) (by decide) (by decide) ?_
            simp only [own_M0_240, if_neg hc240_1284] at J1287
            exact J1287
        refine own_iload X1282 hx (hb hby at_246) rfl (q := 248) rfl ?_
        refine own_iconst X1282 hx (hb hby at_248) (z := 1) rfl (q := 249) rfl ?_
        refine own_icN X1282 hx (hb hby at_249) (tlt (by decide : ((1 : Int32) < (2 : Int32)))).2.2.2 (q := 252) rfl ?_
        refine own_aload X1282 hx (hb hby at_252) rfl rfl (q := 254) rfl ?_
        refine own_iconst X1282 hx (hb hby at_254) (z := 1) rfl (q := 255) rfl ?_
        obtain ⟨cl1288, Ar1288, q1288, S1288, N1288v, H1288, G1288⟩ := id V_b1182_1277
        have hin1288 : ¬ ((1 : Int32) < 0 ∨ cl1288.slots.size ≤ ((1 : Int32)).toNatClampNeg) := inb_of S1288 ⟨by decide, by decide⟩
        refine own_back (X1282.iaload hx (j := (1 : Int32)) (v := (.int (own_F2 p1 (own_F2 p2 p3)))) (by rw [e1282]; exact Ar1288.1) (State.isArrayOf_alike hZ.alike Ar1288.2.1) Ar1288.2.2 hin1288 (Has.at H1288 hin1288 rfl) (g := (mkF m 255 #[.val (.int p0), .val (.int p1), .val (.int p2), .val (.int p3), .val (.long q4), .second, .val (.int p5), .val (.int (own_F1 p1 (own_F1 p2 p3))), .val (.int (own_F2 p1 (own_F2 p2 p3))), .val (.int (own_F2 (own_F1 p1 p2) (own_F1 (own_F2 p1 p2) p3))), .val (.int (2 : Int32)), .val (.ref b1182), .val (.int (p5 &&& (15 : Int32))), .val (.long (own_M0_133 p1 p2 p3 q4 p5)), .second, .val (.ref b1205), .val (.int (own_F10_2 (own_M0_133 p1 p2 p3 q4 p5) (own_F1 p1 (own_F1 p2 p3)) (own_F2 p1 (own_F2 p2 p3)))), .val (.int (own_M0_240 p1 p2 p3 q4 p5))] [(.int (1 : Int32)), (.ref b1182)])) rfl rfl (hb hby at_255)) ?_
        show own_End p e below s _ _ _ (T1282.setTop (mkF m 256 #[.val (.int p0), .val (.int p1), .val (.int p2), .val (.int p3), .val (.long q4), .second, .val (.int p5), .val (.int (own_F1 p1 (own_F1 p2 p3))), .val (.int (own_F2 p1 (own_F2 p2 p3))), .val (.int (own_F2 (own_F1 p1 p2) (own_F1 (own_F2 p1 p2) p3))), .val (.int (2 : Int32)), .val (.ref b1182), .val (.int (p5 &&& (15 : Int32))), .val (.long (own_M0_133 p1 p2 p3 q4 p5)), .second, .val (.ref b1205), .val (.int (own_F10_2 (own_M0_133 p1 p2 p3 q4 p5) (own_F1 p1 (own_F1 p2 p3)) (own_F2 p1 (own_F2 p2 p3)))), .val (.int (own_M0_240 p1 p2 p3 q4 p5))] [(.int (own_F2 p1 (own_F2 p2 p3)))])) ReturnedEndW
        refine own_i2l X1282 hx (hb hby at_256) (q := 257) rfl ?_
        refine own_lload X1282 hx (hb hby at_257) rfl (q := 259) rfl ?_
        suffices J1292 : own_End p e below s (own_Q0 Z p0 p1 p2 p3 q4 p5 sa h0 n0) room_1.cells room_1.slots (T1282.setTop (mkF m 266 #[.val (.int p0), .val (.int p1), .val (.int p2), .val (.int p3), .val (.long q4), .second, .val (.int p5), .val (.int (own_F1 p1 (own_F1 p2 p3))), .val (.int (own_F2 p1 (own_F2 p2 p3))), .val (.int (own_F2 (own_F1 p1 p2) (own_F1 (own_F2 p1 p2) p3))), .val (.int (2 : Int32)), .val (.ref b1182), .val (.int (p5 &&& (15 : Int32))), .val (.long (own_M0_133 p1 p2 p3 q4 p5)), .second, .val (.ref b1205), .val (.int (own_F10_2 (own_M0_133 p1 p2 p3 q4 p5) (own_F1 p1 (own_F1 p2 p3)) (own_F2 p1 (own_F2 p2 p3)))), .val (.int (own_M0_260 p1 p2 p3 q4 p5))] [])) ReturnedEndW by
          by_cases hc260_1289 : ((own_F2 p1 (own_F2 p2 p3)).toInt64) < (own_M0_133 p1 p2 p3 q4 p5)
          · refine own_lcN X1282 hx (hb hby at_259) (r := 260) rfl (hb hby at_260) (own_tlt hc260_1289).2.1 (q := 263) rfl ?_
            refine own_iinc X1282 hx (hb hby at_263) rfl (z := 1) rfl (l' := #[.val (.int p0), .val (.int p1), .val (.int p2), .val (.int p3), .val (.long q4), .second, .val (.int p5), .val (.int (own_F1 p1 (own_F1 p2 p3))), .val (.int (own_F2 p1 (own_F2 p2 p3))), .val (.int (own_F2 (own_F1 p1 p2) (own_F1 (own_F2 p1 p2) p3))), .val (.int (2 : Int32)), .val (.ref b1182), .val (.int (p5 &&& (15 : Int32))), .val (.long (own_M0_133 p1 p2 p3 q4 p5)), .second, .val (.ref b1205), .val (.int (own_F10_2 (own_M0_133 p1 p2 p3 q4 p5) (own_F1 p1 (own_F1 p2 p3)) (own_F2 p1 (own_F2 p2 p3)))), .val (.int ((own_M0_240 p1 p2 p3 q4 p5) + (1 : Int32)))]) rfl (q := 266) rfl ?_
            simp only [own_M0_260, if_pos hc260_1289] at J1292
            exact J1292
          · refine own_lcY X1282 hx (hb hby at_259) (r := 260) rfl (hb hby at_260) (own_flt hc260_1289).2.1 (q := 266) (by decide) (by decide) ?_
            simp only [own_M0_260, if_neg hc260_1289] at J1292
            exact J1292
        refine own_iload X1282 hx (hb hby at_266) rfl (q := 268) rfl ?_
        refine own_iconst X1282 hx (hb hby at_268) (z := 2) rfl (q := 269) rfl ?_
        refine own_icY X1282 hx (hb hby at_269) (flt (by decide : ¬ ((2 : Int32) < (2 : Int32)))).2.2.2 (q := 286) (by decide) (by decide) ?_
        refine own_iload X1282 hx (hb hby at_286) rfl (q := 288) rfl ?_
        refine own_iload X1282 hx (hb hby at_288) rfl (q := 290) rfl ?_
        have hk1293 : (own_F10_2 (own_M0_133 p1 p2 p3 q4 p5) (own_F1 p1 (own_F1 p2 p3)) (own_F2 p1 (own_F2 p2 p3))) = (own_M0_260 p1 p2 p3 q4 p5) := by rw [own_M0_260, own_M0_240]; exact own_bs2 _ _ _ (own_lohi _ _ _)
        refine own_icN X1282 hx (hb hby at_290) (teq hk1293).2 (q := 293) rfl ?_
        refine own_iconst X1282 hx (hb hby at_293) (z := 1) rfl (q := 294) rfl ?_
        refine own_goto X1282 hx (hb hby at_294) (q := 298) (by decide) (by decide) ?_
        refine own_retNW X1282 hx hS1210 (by rw [e1282]; exact kZ1281) (t := .boolean) (by simp) Bd.returns Bd.notSynchronized (by decide) (by decide) (hb hby at_298) ?_
        show own_Q0 Z p0 p1 p2 p3 q4 p5 sa h0 n0 _ T1282.heap _
        exact ⟨rfl, N1282⟩
      · have hz1295 : (p0 &&& (3 : Int32)) = (3 : Int32) := own_and3 p0 hz981 hz1076 hz1181
        rw [hz1295]
        refine own_istore X980 hx (hb hby at_44) (l' := #[.val (.int p0), .val (.int p1), .val (.int p2), .val (.int p3), .val (.long q4), .second, .val (.int p5), .val (.int (own_F1 p1 (own_F1 p2 p3))), .val (.int (own_F2 p1 (own_F2 p2 p3))), .val (.int (own_F2 (own_F1 p1 p2) (own_F1 (own_F2 p1 p2) p3))), .val (.int (3 : Int32)), .unset, .unset, .unset, .unset, .unset, .unset, .unset]) rfl (q := 46) rfl ?_
        refine own_iload X980 hx (hb hby at_46) rfl (q := 48) rfl ?_
        refine own_ifY X980 hx (hb hby at_48) (feq (by decide : ¬ ((3 : Int32) = (0 : Int32)))).2 (q := 59) (by decide) (by decide) ?_
        refine own_iload X980 hx (hb hby at_59) rfl (q := 61) rfl ?_
        refine own_iconst X980 hx (hb hby at_61) (z := 1) rfl (q := 62) rfl ?_
        refine own_icY X980 hx (hb hby at_62) (feq (by decide : ¬ ((3 : Int32) = (1 : Int32)))).2 (q := 78) (by decide) (by decide) ?_
        refine own_iload X980 hx (hb hby at_78) rfl (q := 80) rfl ?_
        refine own_iconst X980 hx (hb hby at_80) (z := 2) rfl (q := 81) rfl ?_
        refine own_icY X980 hx (hb hby at_81) (feq (by decide : ¬ ((3 : Int32) = (2 : Int32)))).2 (q := 102) (by decide) (by decide) ?_
        refine own_iconst X980 hx (hb hby at_102) (z := 3) rfl (q := 103) rfl ?_
        obtain ⟨T1296, h1296, k1296, X1296, e1296, E1296, A1296, Ex1296, st1296⟩ := newPE X980 hx hZ (hw _ (List.mem_of_getElem? (i := 7) rfl)) e980 (g := (mkF m 103 #[.val (.int p0), .val (.int p1), .val (.int p2), .val (.int p3), .val (.long q4), .second, .val (.int p5), .val (.int (own_F1 p1 (own_F1 p2 p3))), .val (.int (own_F2 p1 (own_F2 p2 p3))), .val (.int (own_F2 (own_F1 p1 p2) (own_F1 (own_F2 p1 p2) p3))), .val (.int (3 : Int32)), .unset, .unset, .unset, .unset, .unset, .unset, .unset] [(.int (3 : Int32))])) rfl (hb hby at_103) rfl (by decide) (cap := 3) (by decide) (by decide) (by decide) (by decide) (ad := "[I") rfl
        obtain ⟨b1296, g1296⟩ : ∃ z, z = h0.size := ⟨_, rfl⟩
        have g_b1296 : n0 ≤ b1296 := Nat.le_trans Z0 (Nat.le_of_eq g1296.symm)
        have Z1297 := Nat.le_trans Z0 E1296.1
        rw [← g1296] at A1296 Ex1296 st1296
        have S_dc_1298 := S_dc.ext E1296
        have V_b1296 : Arv Z h1296 b1296 k1296 .int (3 : Int32) [(.int (0 : Int32)), (.int (0 : Int32)), (.int (0 : Int32))] (.int (0 : Int32)) := (Arv.new A1296 (by decide)).pad (pad_rep [] (.int (0 : Int32)) 3)
        refine own_back st1296 ?_
        show own_End p e below s _ _ _ (T1296.setTop (mkF m 105 #[.val (.int p0), .val (.int p1), .val (.int p2), .val (.int p3), .val (.long q4), .second, .val (.int p5), .val (.int (own_F1 p1 (own_F1 p2 p3))), .val (.int (own_F2 p1 (own_F2 p2 p3))), .val (.int (own_F2 (own_F1 p1 p2) (own_F1 (own_F2 p1 p2) p3))), .val (.int (3 : Int32)), .unset, .unset, .unset, .unset, .unset, .unset, .unset] [(.ref b1296)])) ReturnedEndW
        refine own_dup X1296 hx (hb hby at_105) rfl (q := 106) rfl ?_
        refine own_iconst X1296 hx (hb hby at_106) (z := 0) rfl (q := 107) rfl ?_
        refine own_iload X1296 hx (hb hby at_107) rfl (q := 109) rfl ?_
        obtain ⟨cl1299, Ar1299, q1299, S1299, N1299v, H1299, G1299⟩ := id V_b1296
        have hin1299 : ¬ ((0 : Int32) < 0 ∨ cl1299.slots.size ≤ ((0 : Int32)).toNatClampNeg) := inb_of S1299 ⟨by decide, by decide⟩
        obtain ⟨T1299, h1299, X1299, e1299, W1299, st1299⟩ := stI X1296 hx hZ e1296 Ar1299 (j := (0 : Int32)) hin1299 (g := (mkF m 109 #[.val (.int p0), .val (.int p1), .val (.int p2), .val (.int p3), .val (.long q4), .second, .val (.int p5), .val (.int (own_F1 p1 (own_F1 p2 p3))), .val (.int (own_F2 p1 (own_F2 p2 p3))), .val (.int (own_F2 (own_F1 p1 p2) (own_F1 (own_F2 p1 p2) p3))), .val (.int (3 : Int32)), .unset, .unset, .unset, .unset, .unset, .unset, .unset] [(.int (own_F1 p1 (own_F1 p2 p3))), (.int (0 : Int32)), (.ref b1296), (.ref b1296)])) rfl rfl (hb hby at_109)
        have V_b1296_1299 : Arv Z h1299 b1296 k1296 .int (3 : Int32) [(.int (own_F1 p1 (own_F1 p2 p3))), (.int (0 : Int32)), (.int (0 : Int32))] (.int (0 : Int32)) := Arv.set Ar1299 q1299 S1299 N1299v H1299 G1299 rfl W1299 0 rfl (Nat.le_of_ble_eq_true rfl)
        have S_dc_1300 := S_dc_1298.wr W1299
        have Ex1296_1301 := Ex1296.wr W1299
        have Z1302 := Nat.le_trans Z1297 (Keep.of_wr W1299).1
        obtain ⟨L1299, X1299, N1299⟩ := own_gl X1299 (Fr.snoc X1299 N980 g_b1296)
        refine own_back st1299 ?_
        show own_End p e below s _ _ _ (T1299.setTop (mkF m 110 #[.val (.int p0), .val (.int p1), .val (.int p2), .val (.int p3), .val (.long q4), .second, .val (.int p5), .val (.int (own_F1 p1 (own_F1 p2 p3))), .val (.int (own_F2 p1 (own_F2 p2 p3))), .val (.int (own_F2 (own_F1 p1 p2) (own_F1 (own_F2 p1 p2) p3))), .val (.int (3 : Int32)), .unset, .unset, .unset, .unset, .unset, .unset, .unset] [(.ref b1296)])) ReturnedEndW
        refine own_dup X1299 hx (hb hby at_110) rfl (q := 111) rfl ?_
        refine own_iconst X1299 hx (hb hby at_111) (z := 1) rfl (q := 112) rfl ?_
        refine own_iload X1299 hx (hb hby at_112) rfl (q := 114) rfl ?_
        obtain ⟨cl1303, Ar1303, q1303, S1303, N1303v, H1303, G1303⟩ := id V_b1296_1299
        have hin1303 : ¬ ((1 : Int32) < 0 ∨ cl1303.slots.size ≤ ((1 : Int32)).toNatClampNeg) := inb_of S1303 ⟨by decide, by decide⟩
        obtain ⟨T1303, h1303, X1303, e1303, W1303, st1303⟩ := stI X1299 hx hZ e1299 Ar1303 (j := (1 : Int32)) hin1303 (g := (mkF m 114 #[.val (.int p0), .val (.int p1), .val (.int p2), .val (.int p3), .val (.long q4), .second, .val (.int p5), .val (.int (own_F1 p1 (own_F1 p2 p3))), .val (.int (own_F2 p1 (own_F2 p2 p3))), .val (.int (own_F2 (own_F1 p1 p2) (own_F1 (own_F2 p1 p2) p3))), .val (.int (3 : Int32)), .unset, .unset, .unset, .unset, .unset, .unset, .unset] [(.int (own_F2 (own_F1 p1 p2) (own_F1 (own_F2 p1 p2) p3))), (.int (1 : Int32)), (.ref b1296), (.ref b1296)])) rfl rfl (hb hby at_114)
        have V_b1296_1303 : Arv Z h1303 b1296 k1296 .int (3 : Int32) [(.int (own_F1 p1 (own_F1 p2 p3))), (.int (own_F2 (own_F1 p1 p2) (own_F1 (own_F2 p1 p2) p3))), (.int (0 : Int32))] (.int (0 : Int32)) := Arv.set Ar1303 q1303 S1303 N1303v H1303 G1303 rfl W1303 1 rfl (Nat.le_of_ble_eq_true rfl)
        have S_dc_1304 := S_dc_1300.wr W1303
        have Ex1296_1305 := Ex1296_1301.wr W1303
        have Z1306 := Nat.le_trans Z1302 (Keep.of_wr W1303).1
        obtain ⟨L1303, X1303, N1303⟩ := own_gl X1303 (Fr.snoc X1303 N1299 g_b1296)
        refine own_back st1303 ?_
        show own_End p e below s _ _ _ (T1303.setTop (mkF m 115 #[.val (.int p0), .val (.int p1), .val (.int p2), .val (.int p3), .val (.long q4), .second, .val (.int p5), .val (.int (own_F1 p1 (own_F1 p2 p3))), .val (.int (own_F2 p1 (own_F2 p2 p3))), .val (.int (own_F2 (own_F1 p1 p2) (own_F1 (own_F2 p1 p2) p3))), .val (.int (3 : Int32)), .unset, .unset, .unset, .unset, .unset, .unset, .unset] [(.ref b1296)])) ReturnedEndW
        refine own_dup X1303 hx (hb hby at_115) rfl (q := 116) rfl ?_
        refine own_iconst X1303 hx (hb hby at_116) (z := 2) rfl (q := 117) rfl ?_
        refine own_iload X1303 hx (hb hby at_117) rfl (q := 119) rfl ?_
        obtain ⟨cl1307, Ar1307, q1307, S1307, N1307v, H1307, G1307⟩ := id V_b1296_1303
        have hin1307 : ¬ ((2 : Int32) < 0 ∨ cl1307.slots.size ≤ ((2 : Int32)).toNatClampNeg) := inb_of S1307 ⟨by decide, by decide⟩
        obtain ⟨T1307, h1307, X1307, e1307, W1307, st1307⟩ := stI X1303 hx hZ e1303 Ar1307 (j := (2 : Int32)) hin1307 (g := (mkF m 119 #[.val (.int p0), .val (.int p1), .val (.int p2), .val (.int p3), .val (.long q4), .second, .val (.int p5), .val (.int (own_F1 p1 (own_F1 p2 p3))), .val (.int (own_F2 p1 (own_F2 p2 p3))), .val (.int (own_F2 (own_F1 p1 p2) (own_F1 (own_F2 p1 p2) p3))), .val (.int (3 : Int32)), .unset, .unset, .unset, .unset, .unset, .unset, .unset] [(.int (own_F2 p1 (own_F2 p2 p3))), (.int (2 : Int32)), (.ref b1296), (.ref b1296)])) rfl rfl (hb hby at_119)
        have V_b1296_1307 : Arv Z h1307 b1296 k1296 .int (3 : Int32) [(.int (own_F1 p1 (own_F1 p2 p3))), (.int (own_F2 (own_F1 p1 p2) (own_F1 (own_F2 p1 p2) p3))), (.int (own_F2 p1 (own_F2 p2 p3)))] (.int (0 : Int32)) := Arv.set Ar1307 q1307 S1307 N1307v H1307 G1307 rfl W1307 2 rfl (Nat.le_of_ble_eq_true rfl)
        have S_dc_1308 := S_dc_1304.wr W1307
        have Ex1296_1309 := Ex1296_1305.wr W1307
        have Z1310 := Nat.le_trans Z1306 (Keep.of_wr W1307).1
        obtain ⟨L1307, X1307, N1307⟩ := own_gl X1307 (Fr.snoc X1307 N1303 g_b1296)
        refine own_back st1307 ?_
        show own_End p e below s _ _ _ (T1307.setTop (mkF m 120 #[.val (.int p0), .val (.int p1), .val (.int p2), .val (.int p3), .val (.long q4), .second, .val (.int p5), .val (.int (own_F1 p1 (own_F1 p2 p3))), .val (.int (own_F2 p1 (own_F2 p2 p3))), .val (.int (own_F2 (own_F1 p1 p2) (own_F1 (own_F2 p1 p2) p3))), .val (.int (3 : Int32)), .unset, .unset, .unset, .unset, .unset, .unset, .unset] [(.ref b1296)])) ReturnedEndW
        refine own_astore X1307 hx (hb hby at_120) rfl (l' := #[.val (.int p0), .val (.int p1), .val (.int p2), .val (.int p3), .val (.long q4), .second, .val (.int p5), .val (.int (own_F1 p1 (own_F1 p2 p3))), .val (.int (own_F2 p1 (own_F2 p2 p3))), .val (.int (own_F2 (own_F1 p1 p2) (own_F1 (own_F2 p1 p2) p3))), .val (.int (3 : Int32)), .val (.ref b1296), .unset, .unset, .unset, .unset, .unset, .unset]) rfl (q := 122) rfl ?_
        refine own_iload X1307 hx (hb hby at_122) rfl (q := 124) rfl ?_
        refine own_bipush X1307 hx (hb hby at_124) (z := 15) rfl (q := 126) rfl ?_
        refine own_iand X1307 hx (hb hby at_126) (q := 127) rfl ?_
        refine own_istore X1307 hx (hb hby at_127) (l' := #[.val (.int p0), .val (.int p1), .val (.int p2), .val (.int p3), .val (.long q4), .second, .val (.int p5), .val (.int (own_F1 p1 (own_F1 p2 p3))), .val (.int (own_F2 p1 (own_F2 p2 p3))), .val (.int (own_F2 (own_F1 p1 p2) (own_F1 (own_F2 p1 p2) p3))), .val (.int (3 : Int32)), .val (.ref b1296), .val (.int (p5 &&& (15 : Int32))), .unset, .unset, .unset, .unset, .unset]) rfl (q := 129) rfl ?_
        refine own_iload X1307 hx (hb hby at_129) rfl (q := 131) rfl ?_
        refine own_bipush X1307 hx (hb hby at_131) (z := 9) rfl (q := 133) rfl ?_
        suffices J1322 : own_End p e below s (own_Q0 Z p0 p1 p2 p3 q4 p5 sa h0 n0) room_1.cells room_1.slots (T1307.setTop (mkF m 187 #[.val (.int p0), .val (.int p1), .val (.int p2), .val (.int p3), .val (.long q4), .second, .val (.int p5), .val (.int (own_F1 p1 (own_F1 p2 p3))), .val (.int (own_F2 p1 (own_F2 p2 p3))), .val (.int (own_F2 (own_F1 p1 p2) (own_F1 (own_F2 p1 p2) p3))), .val (.int (3 : Int32)), .val (.ref b1296), .val (.int (p5 &&& (15 : Int32))), .val (.long (own_M0_133 p1 p2 p3 q4 p5)), .second, (if (p5 &&& (15 : Int32)) < (9 : Int32) then (Slot.val (.int ((p5 &&& (15 : Int32)) / (3 : Int32)))) else (Slot.unset)), (if (p5 &&& (15 : Int32)) < (9 : Int32) then (Slot.val (.int (own_M0_144 p1 p2 p3 p5))) else (Slot.unset)), .unset] [])) ReturnedEndW by
          by_cases hc133_1311 : (p5 &&& (15 : Int32)) < (9 : Int32)
          · refine own_icN X1307 hx (hb hby at_133) (tlt hc133_1311).2.1 (q := 136) rfl ?_
            refine own_iload X1307 hx (hb hby at_136) rfl (q := 138) rfl ?_
            refine own_iconst X1307 hx (hb hby at_138) (z := 3) rfl (q := 139) rfl ?_
            refine own_idiv X1307 hx (hb hby at_139) (by decide) (q := 140) rfl ?_
            refine own_istore X1307 hx (hb hby at_140) (l' := #[.val (.int p0), .val (.int p1), .val (.int p2), .val (.int p3), .val (.long q4), .second, .val (.int p5), .val (.int (own_F1 p1 (own_F1 p2 p3))), .val (.int (own_F2 p1 (own_F2 p2 p3))), .val (.int (own_F2 (own_F1 p1 p2) (own_F1 (own_F2 p1 p2) p3))), .val (.int (3 : Int32)), .val (.ref b1296), .val (.int (p5 &&& (15 : Int32))), .unset, .unset, .val (.int ((p5 &&& (15 : Int32)) / (3 : Int32))), .unset, .unset]) rfl (q := 142) rfl ?_
            refine own_iload X1307 hx (hb hby at_142) rfl (q := 144) rfl ?_
            suffices J1319 : own_End p e below s (own_Q0 Z p0 p1 p2 p3 q4 p5 sa h0 n0) room_1.cells room_1.slots (T1307.setTop (mkF m 165 #[.val (.int p0), .val (.int p1), .val (.int p2), .val (.int p3), .val (.long q4), .second, .val (.int p5), .val (.int (own_F1 p1 (own_F1 p2 p3))), .val (.int (own_F2 p1 (own_F2 p2 p3))), .val (.int (own_F2 (own_F1 p1 p2) (own_F1 (own_F2 p1 p2) p3))), .val (.int (3 : Int32)), .val (.ref b1296), .val (.int (p5 &&& (15 : Int32))), .unset, .unset, .val (.int ((p5 &&& (15 : Int32)) / (3 : Int32))), .unset, .unset] [(.int (own_M0_144 p1 p2 p3 p5))])) ReturnedEndW by
              by_cases hc144_1312 : ((p5 &&& (15 : Int32)) / (3 : Int32)) = (0 : Int32)
              · refine own_ifN X1307 hx (hb hby at_144) (teq hc144_1312).2 (q := 147) rfl ?_
                refine own_iload X1307 hx (hb hby at_147) rfl (q := 149) rfl ?_
                refine own_goto X1307 hx (hb hby at_149) (q := 165) (by decide) (by decide) ?_
                simp only [own_M0_144, if_pos hc144_1312] at J1319
                exact J1319
              · refine own_ifY X1307 hx (hb hby at_144) (feq hc144_1312).2 (q := 152) (by decide) (by decide) ?_
                refine own_iload X1307 hx (hb hby at_152) rfl (q := 154) rfl ?_
                refine own_iconst X1307 hx (hb hby at_154) (z := 1) rfl (q := 155) rfl ?_
                suffices J1317 : own_End p e below s (own_Q0 Z p0 p1 p2 p3 q4 p5 sa h0 n0) room_1.cells room_1.slots (T1307.setTop (mkF m 165 #[.val (.int p0), .val (.int p1), .val (.int p2), .val (.int p3), .val (.long q4), .second, .val (.int p5), .val (.int (own_F1 p1 (own_F1 p2 p3))), .val (.int (own_F2 p1 (own_F2 p2 p3))), .val (.int (own_F2 (own_F1 p1 p2) (own_F1 (own_F2 p1 p2) p3))), .val (.int (3 : Int32)), .val (.ref b1296), .val (.int (p5 &&& (15 : Int32))), .unset, .unset, .val (.int ((p5 &&& (15 : Int32)) / (3 : Int32))), .unset, .unset] [(.int (own_M0_155 p1 p2 p3 p5))])) ReturnedEndW by
                  by_cases hc155_1314 : ((p5 &&& (15 : Int32)) / (3 : Int32)) = (1 : Int32)
                  · refine own_icN X1307 hx (hb hby at_155) (teq hc155_1314).2 (q := 158) rfl ?_
                    refine own_iload X1307 hx (hb hby at_158) rfl (q := 160) rfl ?_
                    refine own_goto X1307 hx (hb hby at_160) (q := 165) (by decide) (by decide) ?_
                    simp only [own_M0_155, if_pos hc155_1314] at J1317
                    exact J1317
                  · refine own_icY X1307 hx (hb hby at_155) (feq hc155_1314).2 (q := 163) (by decide) (by decide) ?_
                    refine own_iload X1307 hx (hb hby at_163) rfl (q := 165) rfl ?_
                    simp only [own_M0_155, if_neg hc155_1314] at J1317
                    exact J1317
                simp only [own_M0_144, if_neg hc144_1312] at J1319
                exact J1319
            refine own_istore X1307 hx (hb hby at_165) (l' := #[.val (.int p0), .val (.int p1), .val (.int p2), .val (.int p3), .val (.long q4), .second, .val (.int p5), .val (.int (own_F1 p1 (own_F1 p2 p3))), .val (.int (own_F2 p1 (own_F2 p2 p3))), .val (.int (own_F2 (own_F1 p1 p2) (own_F1 (own_F2 p1 p2) p3))), .val (.int (3 : Int32)), .val (.ref b1296), .val (.int (p5 &&& (15 : Int32))), .unset, .unset, .val (.int ((p5 &&& (15 : Int32)) / (3 : Int32))), .val (.int (own_M0_144 p1 p2 p3 p5)), .unset]) rfl (q := 167) rfl ?_
            refine own_iload X1307 hx (hb hby at_167) rfl (q := 169) rfl ?_
            refine own_i2l X1307 hx (hb hby at_169) (q := 170) rfl ?_
            refine own_iload X1307 hx (hb hby at_170) rfl (q := 172) rfl ?_
            refine own_iconst X1307 hx (hb hby at_172) (z := 3) rfl (q := 173) rfl ?_
            refine own_irem X1307 hx (hb hby at_173) (by decide) (q := 174) rfl ?_
            refine own_i2l X1307 hx (hb hby at_174) (q := 175) rfl ?_
            refine own_ladd X1307 hx (hb hby at_175) (q := 176) rfl ?_
            refine own_lconst X1307 hx (hb hby at_176) (z := 1) rfl (q := 177) rfl ?_
            refine own_lsub X1307 hx (hb hby at_177) (q := 178) rfl ?_
            refine own_lstore X1307 hx (hb hby at_178) (l' := #[.val (.int p0), .val (.int p1), .val (.int p2), .val (.int p3), .val (.long q4), .second, .val (.int p5), .val (.int (own_F1 p1 (own_F1 p2 p3))), .val (.int (own_F2 p1 (own_F2 p2 p3))), .val (.int (own_F2 (own_F1 p1 p2) (own_F1 (own_F2 p1 p2) p3))), .val (.int (3 : Int32)), .val (.ref b1296), .val (.int (p5 &&& (15 : Int32))), .val (.long ((((own_M0_144 p1 p2 p3 p5).toInt64) + (((p5 &&& (15 : Int32)) % (3 : Int32)).toInt64)) - (1 : Int64))), .second, .val (.int ((p5 &&& (15 : Int32)) / (3 : Int32))), .val (.int (own_M0_144 p1 p2 p3 p5)), .unset]) rfl (q := 180) rfl ?_
            refine own_goto X1307 hx (hb hby at_180) (q := 187) (by decide) (by decide) ?_
            simp only [own_M0_133, if_pos hc133_1311] at J1322
            exact J1322
          · refine own_icY X1307 hx (hb hby at_133) (flt hc133_1311).2.1 (q := 183) (by decide) (by decide) ?_
            refine own_lload X1307 hx (hb hby at_183) rfl (q := 185) rfl ?_
            refine own_lstore X1307 hx (hb hby at_185) (l' := #[.val (.int p0), .val (.int p1), .val (.int p2), .val (.int p3), .val (.long q4), .second, .val (.int p5), .val (.int (own_F1 p1 (own_F1 p2 p3))), .val (.int (own_F2 p1 (own_F2 p2 p3))), .val (.int (own_F2 (own_F1 p1 p2) (own_F1 (own_F2 p1 p2) p3))), .val (.int (3 : Int32)), .val (.ref b1296), .val (.int (p5 &&& (15 : Int32))), .val (.long q4), .second, .unset, .unset, .unset]) rfl (q := 187) rfl ?_
            simp only [own_M0_133, if_neg hc133_1311] at J1322
            exact J1322
        obtain ⟨T1323, h1323, X1323, e1323, E1323, A1323, D1323, -, st1323⟩ := newO X1307 hx hZ hown (hw _ (List.mem_of_getElem? (i := 8) rfl)) (hw _ (List.mem_of_getElem? (i := 9) rfl)) (hw _ (List.mem_of_getElem? (i := 10) rfl)) e1307 (g := (mkF m 187 #[.val (.int p0), .val (.int p1), .val (.int p2), .val (.int p3), .val (.long q4), .second, .val (.int p5), .val (.int (own_F1 p1 (own_F1 p2 p3))), .val (.int (own_F2 p1 (own_F2 p2 p3))), .val (.int (own_F2 (own_F1 p1 p2) (own_F1 (own_F2 p1 p2) p3))), .val (.int (3 : Int32)), .val (.ref b1296), .val (.int (p5 &&& (15 : Int32))), .val (.long (own_M0_133 p1 p2 p3 q4 p5)), .second, (if (p5 &&& (15 : Int32)) < (9 : Int32) then (Slot.val (.int ((p5 &&& (15 : Int32)) / (3 : Int32)))) else (Slot.unset)), (if (p5 &&& (15 : Int32)) < (9 : Int32) then (Slot.val (.int (own_M0_144 p1 p2 p3 p5))) else (Slot.unset)), .unset] [])) rfl (hb hby at_187) (by decide) (by decide)
        obtain ⟨b1323, g1323⟩ : ∃ z, z = h1307.size := ⟨_, rfl⟩
        have ne_b1296_b1323 : b1296 ≠ b1323 := Nat.ne_of_lt (Nat.lt_of_lt_of_le Ex1296_1309.lt (Nat.le_of_eq g1323.symm))
        have g_b1323 : n0 ≤ b1323 := Nat.le_trans Z1310 (Nat.le_of_eq g1323.symm)
        have Z1324 := Nat.le_trans Z1310 E1323.1
        rw [← g1323] at A1323 D1323 st1323
        have S_dc_1325 := S_dc_1308.ext E1323
        have Ex1296_1326 := Ex1296_1309.ext E1323
        have V_b1296_1327 := V_b1296_1307.ext E1323
        have F_b1323_constraints : Fld Z h1323 b1323 "com/example/arcwise/arcwise/network/Variable" "constraints" "Ljava/util/List;" .null := D1323 (Or.inr (hw _ (List.mem_of_getElem? (i := 65) rfl))) (ty := (.object "java/util/List")) (by decide)
        have F_b1323_index : Fld Z h1323 b1323 "com/example/arcwise/arcwise/network/Variable" "index" "I" (.int (0 : Int32)) := D1323 (Or.inr (hw _ (List.mem_of_getElem? (i := 67) rfl))) (ty := .int) (by decide)
        have F_b1323_name : Fld Z h1323 b1323 "com/example/arcwise/arcwise/network/Variable" "name" "Ljava/lang/String;" .null := D1323 (Or.inr (hw _ (List.mem_of_getElem? (i := 69) rfl))) (ty := (.object "java/lang/String")) (by decide)
        have F_b1323_values : Fld Z h1323 b1323 "com/example/arcwise/arcwise/network/Variable" "values" "[I" .null := D1323 (Or.inr (hw _ (List.mem_of_getElem? (i := 80) rfl))) (ty := (.array .int)) (by decide)
        have F_b1323_domain : Fld Z h1323 b1323 "com/example/arcwise/arcwise/network/Variable" "domain" "Lcom/example/arcwise/arcwise/network/Domain;" .null := D1323 (Or.inr (hw _ (List.mem_of_getElem? (i := 98) rfl))) (ty := (.object "com/example/arcwise/arcwise/network/Domain")) (by decide)
        have F_b1323_assignmentListeners : Fld Z h1323 b1323 "com/example/arcwise/arcwise/network/Variable" "assignmentListeners" "Ljava/util/List;" .null := D1323 (Or.inr (hw _ (List.mem_of_getElem? (i := 100) rfl))) (ty := (.object "java/util/List")) (by decide)
        refine own_back st1323 ?_
        show own_End p e below s _ _ _ (T1323.setTop (mkF m 190 #[.val (.int p0), .val (.int p1), .val (.int p2), .val (.int p3), .val (.long q4), .second, .val (.int p5), .val (.int (own_F1 p1 (own_F1 p2 p3))), .val (.int (own_F2 p1 (own_F2 p2 p3))), .val (.int (own_F2 (own_F1 p1 p2) (own_F1 (own_F2 p1 p2) p3))), .val (.int (3 : Int32)), .val (.ref b1296), .val (.int (p5 &&& (15 : Int32))), .val (.long (own_M0_133 p1 p2 p3 q4 p5)), .second, (if (p5 &&& (15 : Int32)) < (9 : Int32) then (Slot.val (.int ((p5 &&& (15 : Int32)) / (3 : Int32)))) else (Slot.unset)), (if (p5 &&& (15 : Int32)) < (9 : Int32) then (Slot.val (.int (own_M0_144 p1 p2 p3 p5))) else (Slot.unset)), .unset] [(.ref b1323)])) ReturnedEndW
        refine own_dup X1323 hx (hb hby at_190) rfl (q := 191) rfl ?_
        refine own_iconst X1323 hx (hb hby at_191) (z := 0) rfl (q := 192) rfl ?_
        obtain ⟨as1328, T1328, h1328, k11328, X1328, e1328, E1328, hS1328, hk1328, hZ, hown, -, -, st1328⟩ := ldcOH (EL := []) (s := s) (vm0 := s.vm) X1323 hx hZ hown (hw _ (List.mem_of_getElem? (i := 11) rfl)) (own_sat hw) e1323 own_since0 (Nat.zero_le _) EW.nil own_chv0 (g := (mkF m 192 #[.val (.int p0), .val (.int p1), .val (.int p2), .val (.int p3), .val (.long q4), .second, .val (.int p5), .val (.int (own_F1 p1 (own_F1 p2 p3))), .val (.int (own_F2 p1 (own_F2 p2 p3))), .val (.int (own_F2 (own_F1 p1 p2) (own_F1 (own_F2 p1 p2) p3))), .val (.int (3 : Int32)), .val (.ref b1296), .val (.int (p5 &&& (15 : Int32))), .val (.long (own_M0_133 p1 p2 p3 q4 p5)), .second, (if (p5 &&& (15 : Int32)) < (9 : Int32) then (Slot.val (.int ((p5 &&& (15 : Int32)) / (3 : Int32)))) else (Slot.unset)), (if (p5 &&& (15 : Int32)) < (9 : Int32) then (Slot.val (.int (own_M0_144 p1 p2 p3 p5))) else (Slot.unset)), .unset] [(.int (0 : Int32)), (.ref b1323), (.ref b1323)])) rfl (hb hby at_192) (n := 4) (by decide) (by decide) (by decide) (by decide)
        have Z1329 := Nat.le_trans Z1324 E1328.1
        have S_dc_1330 := S_dc_1325.ext E1328
        have Ex1296_1331 := Ex1296_1326.ext E1328
        have V_b1296_1332 := V_b1296_1327.ext E1328
        have A1323_1333 := A1323.ext E1328
        have F_b1323_constraints_1334 := F_b1323_constraints.ext E1328
        have F_b1323_index_1335 := F_b1323_index.ext E1328
        have F_b1323_name_1336 := F_b1323_name.ext E1328
        have F_b1323_values_1337 := F_b1323_values.ext E1328
        have F_b1323_domain_1338 := F_b1323_domain.ext E1328
        have F_b1323_assignmentListeners_1339 := F_b1323_assignmentListeners.ext E1328
        refine own_back st1328 ?_
        show own_End p e below s _ _ _ (T1328.setTop (mkF m 194 #[.val (.int p0), .val (.int p1), .val (.int p2), .val (.int p3), .val (.long q4), .second, .val (.int p5), .val (.int (own_F1 p1 (own_F1 p2 p3))), .val (.int (own_F2 p1 (own_F2 p2 p3))), .val (.int (own_F2 (own_F1 p1 p2) (own_F1 (own_F2 p1 p2) p3))), .val (.int (3 : Int32)), .val (.ref b1296), .val (.int (p5 &&& (15 : Int32))), .val (.long (own_M0_133 p1 p2 p3 q4 p5)), .second, (if (p5 &&& (15 : Int32)) < (9 : Int32) then (Slot.val (.int ((p5 &&& (15 : Int32)) / (3 : Int32)))) else (Slot.unset)), (if (p5 &&& (15 : Int32)) < (9 : Int32) then (Slot.val (.int (own_M0_144 p1 p2 p3 p5))) else (Slot.unset)), .unset] [(.ref as1328), (.int (0 : Int32)), (.ref b1323), (.ref b1323)])) ReturnedEndW
        refine own_aload X1328 hx (hb hby at_194) rfl rfl (q := 196) rfl ?_
        obtain ⟨T1340, h1340, X1340, e1340, E1340, A1340, D1340, -, st1340⟩ := newO X1328 hx hZ hown (hw _ (List.mem_of_getElem? (i := 19) rfl)) (hw _ (List.mem_of_getElem? (i := 20) rfl)) (hw _ (List.mem_of_getElem? (i := 21) rfl)) e1328 (g := (mkF m 196 #[.val (.int p0), .val (.int p1), .val (.int p2), .val (.int p3), .val (.long q4), .second, .val (.int p5), .val (.int (own_F1 p1 (own_F1 p2 p3))), .val (.int (own_F2 p1 (own_F2 p2 p3))), .val (.int (own_F2 (own_F1 p1 p2) (own_F1 (own_F2 p1 p2) p3))), .val (.int (3 : Int32)), .val (.ref b1296), .val (.int (p5 &&& (15 : Int32))), .val (.long (own_M0_133 p1 p2 p3 q4 p5)), .second, (if (p5 &&& (15 : Int32)) < (9 : Int32) then (Slot.val (.int ((p5 &&& (15 : Int32)) / (3 : Int32)))) else (Slot.unset)), (if (p5 &&& (15 : Int32)) < (9 : Int32) then (Slot.val (.int (own_M0_144 p1 p2 p3 p5))) else (Slot.unset)), .unset] [(.ref b1296), (.ref as1328), (.int (0 : Int32)), (.ref b1323), (.ref b1323)])) rfl (hb hby at_196) (by decide) (by decide)
        obtain ⟨b1340, g1340⟩ : ∃ z, z = h1328.size := ⟨_, rfl⟩
        have ne_b1296_b1340 : b1296 ≠ b1340 := Nat.ne_of_lt (Nat.lt_of_lt_of_le Ex1296_1331.lt (Nat.le_of_eq g1340.symm))
        have ne_b1323_b1340 : b1323 ≠ b1340 := Nat.ne_of_lt (Nat.lt_of_lt_of_le A1323_1333.lt (Nat.le_of_eq g1340.symm))
        have g_b1340 : n0 ≤ b1340 := Nat.le_trans Z1329 (Nat.le_of_eq g1340.symm)
        have Z1341 := Nat.le_trans Z1329 E1340.1
        have kZ1341 := Nat.le_trans hk1328 E1340.1
        rw [← g1340] at A1340 D1340 st1340
        have S_dc_1342 := S_dc_1330.ext E1340
        have Ex1296_1343 := Ex1296_1331.ext E1340
        have V_b1296_1344 := V_b1296_1332.ext E1340
        have A1323_1345 := A1323_1333.ext E1340
        have F_b1323_constraints_1346 := F_b1323_constraints_1334.ext E1340
        have F_b1323_index_1347 := F_b1323_index_1335.ext E1340
        have F_b1323_name_1348 := F_b1323_name_1336.ext E1340
        have F_b1323_values_1349 := F_b1323_values_1337.ext E1340
        have F_b1323_domain_1350 := F_b1323_domain_1338.ext E1340
        have F_b1323_assignmentListeners_1351 := F_b1323_assignmentListeners_1339.ext E1340
        have F_b1340_domains : Fld Z h1340 b1340 "com/example/arcwise/arcwise/network/Trail" "domains" "[Lcom/example/arcwise/arcwise/network/Domain;" .null := D1340 (Or.inl (hw _ (List.mem_of_getElem? (i := 31) rfl))) (ty := (.array (.object "com/example/arcwise/arcwise/network/Domain"))) (by decide)
        have F_b1340_indexes : Fld Z h1340 b1340 "com/example/arcwise/arcwise/network/Trail" "indexes" "[I" .null := D1340 (Or.inl (hw _ (List.mem_of_getElem? (i := 33) rfl))) (ty := (.array .int)) (by decide)
        refine own_back st1340 ?_
        show own_End p e below s _ _ _ (T1340.setTop (mkF m 199 #[.val (.int p0), .val (.int p1), .val (.int p2), .val (.int p3), .val (.long q4), .second, .val (.int p5), .val (.int (own_F1 p1 (own_F1 p2 p3))), .val (.int (own_F2 p1 (own_F2 p2 p3))), .val (.int (own_F2 (own_F1 p1 p2) (own_F1 (own_F2 p1 p2) p3))), .val (.int (3 : Int32)), .val (.ref b1296), .val (.int (p5 &&& (15 : Int32))), .val (.long (own_M0_133 p1 p2 p3 q4 p5)), .second, (if (p5 &&& (15 : Int32)) < (9 : Int32) then (Slot.val (.int ((p5 &&& (15 : Int32)) / (3 : Int32)))) else (Slot.unset)), (if (p5 &&& (15 : Int32)) < (9 : Int32) then (Slot.val (.int (own_M0_144 p1 p2 p3 p5))) else (Slot.unset)), .unset] [(.ref b1340), (.ref b1296), (.ref as1328), (.int (0 : Int32)), (.ref b1323), (.ref b1323)])) ReturnedEndW
        refine own_dup X1340 hx (hb hby at_199) rfl (q := 200) rfl ?_
        obtain ⟨T1352, Lc1352, L1352, X1352, N1352, hQ1352, st1352⟩ := own_shutV (val := none) (Q := own_Q3 Z b1340 .null .null h1340 n0) (rc := 2) (rs := 512) N1307 (fun _ _ _ q => ⟨q.1, q.2.1⟩) (X1340.specialBack hx (y := (⟨"com/example/arcwise/arcwise/network/Trail", "<init>", "()V"⟩ : MethodName)) rfl hown (mvT hZ (hw _ (List.mem_of_getElem? (i := 22) rfl))) (mvT hZ (hw _ (List.mem_of_getElem? (i := 23) rfl))) (mvT hZ (hw _ (List.mem_of_getElem? (i := 24) rfl))) (by decide) (backOf (W := 6) (own_rm3 l Z a0 hw [] b1340 .null .null h1340 n0 Z1341 A1340 F_b1340_domains F_b1340_indexes g_b1340) hZ (hw _ (List.mem_of_getElem? (i := 24) rfl)) (hw _ (List.mem_of_getElem? (i := 21) rfl)) (by decide) (by decide)) (g := (mkF m 200 #[.val (.int p0), .val (.int p1), .val (.int p2), .val (.int p3), .val (.long q4), .second, .val (.int p5), .val (.int (own_F1 p1 (own_F1 p2 p3))), .val (.int (own_F2 p1 (own_F2 p2 p3))), .val (.int (own_F2 (own_F1 p1 p2) (own_F1 (own_F2 p1 p2) p3))), .val (.int (3 : Int32)), .val (.ref b1296), .val (.int (p5 &&& (15 : Int32))), .val (.long (own_M0_133 p1 p2 p3 q4 p5)), .second, (if (p5 &&& (15 : Int32)) < (9 : Int32) then (Slot.val (.int ((p5 &&& (15 : Int32)) / (3 : Int32)))) else (Slot.unset)), (if (p5 &&& (15 : Int32)) < (9 : Int32) then (Slot.val (.int (own_M0_144 p1 p2 p3 p5))) else (Slot.unset)), .unset] [(.ref b1340), (.ref b1340), (.ref b1296), (.ref as1328), (.int (0 : Int32)), (.ref b1323), (.ref b1323)])) rfl (by rw [hml]; rfl) (Steps.refl _) (a := b1340) (argsL := []) (rest := [(.ref b1340), (.ref b1296), (.ref as1328), (.int (0 : Int32)), (.ref b1323), (.ref b1323)]) (lenOf own_pd0 rfl) rfl (by show 2 * 0 + _ ≤ _; exact Nat.le_of_eq rfl) (hb hby at_200) (fun _ _ => ⟨rfl, e1340, (by decide : 5 + 2 ≤ _), (by decide : 22 + 512 ≤ _)⟩))
        obtain ⟨-, -, K1352, Q1352_0⟩ := hQ1352
        have S_dc_1353 := own_StaK S_dc_1342 K1352 (allS (P := fun o => ∃ C, Exa Z _ o C) ⟨_, A1340⟩ all0)
        have Ex1296_1354 := Ex1296_1343.keep K1352
        have V_b1296_1355 := V_b1296_1344.keep K1352 (ninS ne_b1296_b1340 nin0)
        have A1323_1356 := A1323_1345.keep K1352
        have F_b1323_constraints_1357 := F_b1323_constraints_1346.keep K1352 (ninS ne_b1323_b1340 nin0)
        have F_b1323_index_1358 := F_b1323_index_1347.keep K1352 (ninS ne_b1323_b1340 nin0)
        have F_b1323_name_1359 := F_b1323_name_1348.keep K1352 (ninS ne_b1323_b1340 nin0)
        have F_b1323_values_1360 := F_b1323_values_1349.keep K1352 (ninS ne_b1323_b1340 nin0)
        have F_b1323_domain_1361 := F_b1323_domain_1350.keep K1352 (ninS ne_b1323_b1340 nin0)
        have F_b1323_assignmentListeners_1362 := F_b1323_assignmentListeners_1351.keep K1352 (ninS ne_b1323_b1340 nin0)
        have A1340_1363 := A1340.keep K1352
        have Z1364 := Nat.le_trans Z1341 K1352.1
        have kZ1364 := Nat.le_trans kZ1341 K1352.1
        refine own_via st1352 ?_
        show own_End p e below s _ _ _ (T1352.setTop (mkF m 203 #[.val (.int p0), .val (.int p1), .val (.int p2), .val (.int p3), .val (.long q4), .second, .val (.int p5), .val (.int (own_F1 p1 (own_F1 p2 p3))), .val (.int (own_F2 p1 (own_F2 p2 p3))), .val (.int (own_F2 (own_F1 p1 p2) (own_F1 (own_F2 p1 p2) p3))), .val (.int (3 : Int32)), .val (.ref b1296), .val (.int (p5 &&& (15 : Int32))), .val (.long (own_M0_133 p1 p2 p3 q4 p5)), .second, (if (p5 &&& (15 : Int32)) < (9 : Int32) then (Slot.val (.int ((p5 &&& (15 : Int32)) / (3 : Int32)))) else (Slot.unset)), (if (p5 &&& (15 : Int32)) < (9 : Int32) then (Slot.val (.int (own_M0_144 p1 p2 p3 p5))) else (Slot.unset)), .unset] [(.ref b1340), (.ref b1296), (.ref as1328), (.int (0 : Int32)), (.ref b1323), (.ref b1323)])) ReturnedEndW
        obtain ⟨T1365, h1365, X1365, e1365, E1365, A1365, D1365, -, st1365⟩ := newO X1352 hx hZ hown (hw _ (List.mem_of_getElem? (i := 34) rfl)) (hw _ (List.mem_of_getElem? (i := 35) rfl)) (hw _ (List.mem_of_getElem? (i := 36) rfl)) rfl (g := (mkF m 203 #[.val (.int p0), .val (.int p1), .val (.int p2), .val (.int p3), .val (.long q4), .second, .val (.int p5), .val (.int (own_F1 p1 (own_F1 p2 p3))), .val (.int (own_F2 p1 (own_F2 p2 p3))), .val (.int (own_F2 (own_F1 p1 p2) (own_F1 (own_F2 p1 p2) p3))), .val (.int (3 : Int32)), .val (.ref b1296), .val (.int (p5 &&& (15 : Int32))), .val (.long (own_M0_133 p1 p2 p3 q4 p5)), .second, (if (p5 &&& (15 : Int32)) < (9 : Int32) then (Slot.val (.int ((p5 &&& (15 : Int32)) / (3 : Int32)))) else (Slot.unset)), (if (p5 &&& (15 : Int32)) < (9 : Int32) then (Slot.val (.int (own_M0_144 p1 p2 p3 p5))) else (Slot.unset)), .unset] [(.ref b1340), (.ref b1296), (.ref as1328), (.int (0 : Int32)), (.ref b1323), (.ref b1323)])) rfl (hb hby at_203) (by decide) (by decide)
        obtain ⟨b1365, g1365⟩ : ∃ z, z = T1352.heap.size := ⟨_, rfl⟩
        have ne_b1296_b1365 : b1296 ≠ b1365 := Nat.ne_of_lt (Nat.lt_of_lt_of_le Ex1296_1354.lt (Nat.le_of_eq g1365.symm))
        have ne_b1323_b1365 : b1323 ≠ b1365 := Nat.ne_of_lt (Nat.lt_of_lt_of_le A1323_1356.lt (Nat.le_of_eq g1365.symm))
        have ne_b1340_b1365 : b1340 ≠ b1365 := Nat.ne_of_lt (Nat.lt_of_lt_of_le Q1352_0.lt (Nat.le_of_eq g1365.symm))
        have g_b1365 : n0 ≤ b1365 := Nat.le_trans Z1364 (Nat.le_of_eq g1365.symm)
        have Z1366 := Nat.le_trans Z1364 E1365.1
        have kZ1366 := Nat.le_trans kZ1364 E1365.1
        rw [← g1365] at A1365 D1365 st1365
        have S_dc_1367 := S_dc_1353.ext E1365
        have Ex1296_1368 := Ex1296_1354.ext E1365
        have V_b1296_1369 := V_b1296_1355.ext E1365
        have A1323_1370 := A1323_1356.ext E1365
        have F_b1323_constraints_1371 := F_b1323_constraints_1357.ext E1365
        have F_b1323_index_1372 := F_b1323_index_1358.ext E1365
        have F_b1323_name_1373 := F_b1323_name_1359.ext E1365
        have F_b1323_values_1374 := F_b1323_values_1360.ext E1365
        have F_b1323_domain_1375 := F_b1323_domain_1361.ext E1365
        have F_b1323_assignmentListeners_1376 := F_b1323_assignmentListeners_1362.ext E1365
        have Q1352_1377 := Q1352_0.ext E1365
        have F_b1365_modCount : Fld Z h1365 b1365 "java/util/AbstractList" "modCount" "I" (.int (0 : Int32)) := D1365 (Or.inl (hw _ (List.mem_of_getElem? (i := 54) rfl))) (ty := .int) (by decide)
        have F_b1365_elementData : Fld Z h1365 b1365 "java/util/ArrayList" "elementData" "[Ljava/lang/Object;" .null := D1365 (Or.inl (hw _ (List.mem_of_getElem? (i := 57) rfl))) (ty := (.array (.object "java/lang/Object"))) (by decide)
        refine own_back st1365 ?_
        show own_End p e below s _ _ _ (T1365.setTop (mkF m 206 #[.val (.int p0), .val (.int p1), .val (.int p2), .val (.int p3), .val (.long q4), .second, .val (.int p5), .val (.int (own_F1 p1 (own_F1 p2 p3))), .val (.int (own_F2 p1 (own_F2 p2 p3))), .val (.int (own_F2 (own_F1 p1 p2) (own_F1 (own_F2 p1 p2) p3))), .val (.int (3 : Int32)), .val (.ref b1296), .val (.int (p5 &&& (15 : Int32))), .val (.long (own_M0_133 p1 p2 p3 q4 p5)), .second, (if (p5 &&& (15 : Int32)) < (9 : Int32) then (Slot.val (.int ((p5 &&& (15 : Int32)) / (3 : Int32)))) else (Slot.unset)), (if (p5 &&& (15 : Int32)) < (9 : Int32) then (Slot.val (.int (own_M0_144 p1 p2 p3 p5))) else (Slot.unset)), .unset] [(.ref b1365), (.ref b1340), (.ref b1296), (.ref as1328), (.int (0 : Int32)), (.ref b1323), (.ref b1323)])) ReturnedEndW
        refine own_dup X1365 hx (hb hby at_206) rfl (q := 207) rfl ?_
        obtain ⟨T1378, Lc1378, L1378, X1378, N1378, hQ1378, st1378⟩ := own_shutV (val := none) (Q := own_Q5 Z b1365 (0 : Int32) .null sa h1365 n0) (rc := 0) (rs := 0) N1352 (fun _ _ _ q => ⟨q.1, q.2.1⟩) (X1365.specialBack hx (y := (⟨"java/util/ArrayList", "<init>", "()V"⟩ : MethodName)) rfl hown (mvT hZ (hw _ (List.mem_of_getElem? (i := 37) rfl))) (mvT hZ (hw _ (List.mem_of_getElem? (i := 38) rfl))) (mvT hZ (hw _ (List.mem_of_getElem? (i := 39) rfl))) (by decide) (backOf (W := 7) (own_rm5 l Z a0 hw [] b1365 (0 : Int32) .null sa h1365 n0 Z1366 A1365 F_b1365_modCount F_b1365_elementData S_dc_1367 g_b1365) hZ (hw _ (List.mem_of_getElem? (i := 39) rfl)) (hw _ (List.mem_of_getElem? (i := 36) rfl)) (by decide) (by decide)) (g := (mkF m 207 #[.val (.int p0), .val (.int p1), .val (.int p2), .val (.int p3), .val (.long q4), .second, .val (.int p5), .val (.int (own_F1 p1 (own_F1 p2 p3))), .val (.int (own_F2 p1 (own_F2 p2 p3))), .val (.int (own_F2 (own_F1 p1 p2) (own_F1 (own_F2 p1 p2) p3))), .val (.int (3 : Int32)), .val (.ref b1296), .val (.int (p5 &&& (15 : Int32))), .val (.long (own_M0_133 p1 p2 p3 q4 p5)), .second, (if (p5 &&& (15 : Int32)) < (9 : Int32) then (Slot.val (.int ((p5 &&& (15 : Int32)) / (3 : Int32)))) else (Slot.unset)), (if (p5 &&& (15 : Int32)) < (9 : Int32) then (Slot.val (.int (own_M0_144 p1 p2 p3 p5))) else (Slot.unset)), .unset] [(.ref b1365), (.ref b1365), (.ref b1340), (.ref b1296), (.ref as1328), (.int (0 : Int32)), (.ref b1323), (.ref b1323)])) rfl (by rw [hml]; rfl) (Steps.refl _) (a := b1365) (argsL := []) (rest := [(.ref b1365), (.ref b1340), (.ref b1296), (.ref as1328), (.int (0 : Int32)), (.ref b1323), (.ref b1323)]) (lenOf own_pd0 rfl) rfl (by show 2 * 0 + _ ≤ _; exact Nat.le_of_eq rfl) (hb hby at_207) (fun _ _ => ⟨rfl, e1365, (by decide : 8 + 0 ≤ _), (by decide : 537 + 0 ≤ _)⟩))
        obtain ⟨-, -, K1378, Q1378_0⟩ := hQ1378
        have S_dc_1379 := own_StaK S_dc_1367 K1378 (allS (P := fun o => ∃ C, Exa Z _ o C) ⟨_, A1365⟩ all0)
        have Ex1296_1380 := Ex1296_1368.keep K1378
        have V_b1296_1381 := V_b1296_1369.keep K1378 (ninS ne_b1296_b1365 nin0)
        have A1323_1382 := A1323_1370.keep K1378
        have F_b1323_constraints_1383 := F_b1323_constraints_1371.keep K1378 (ninS ne_b1323_b1365 nin0)
        have F_b1323_index_1384 := F_b1323_index_1372.keep K1378 (ninS ne_b1323_b1365 nin0)
        have F_b1323_name_1385 := F_b1323_name_1373.keep K1378 (ninS ne_b1323_b1365 nin0)
        have F_b1323_values_1386 := F_b1323_values_1374.keep K1378 (ninS ne_b1323_b1365 nin0)
        have F_b1323_domain_1387 := F_b1323_domain_1375.keep K1378 (ninS ne_b1323_b1365 nin0)
        have F_b1323_assignmentListeners_1388 := F_b1323_assignmentListeners_1376.keep K1378 (ninS ne_b1323_b1365 nin0)
        have Q1352_1389 := Q1352_1377.keep K1378
        have A1365_1390 := A1365.keep K1378
        have Z1391 := Nat.le_trans Z1366 K1378.1
        have kZ1391 := Nat.le_trans kZ1366 K1378.1
        refine own_via st1378 ?_
        show own_End p e below s _ _ _ (T1378.setTop (mkF m 210 #[.val (.int p0), .val (.int p1), .val (.int p2), .val (.int p3), .val (.long q4), .second, .val (.int p5), .val (.int (own_F1 p1 (own_F1 p2 p3))), .val (.int (own_F2 p1 (own_F2 p2 p3))), .val (.int (own_F2 (own_F1 p1 p2) (own_F1 (own_F2 p1 p2) p3))), .val (.int (3 : Int32)), .val (.ref b1296), .val (.int (p5 &&& (15 : Int32))), .val (.long (own_M0_133 p1 p2 p3 q4 p5)), .second, (if (p5 &&& (15 : Int32)) < (9 : Int32) then (Slot.val (.int ((p5 &&& (15 : Int32)) / (3 : Int32)))) else (Slot.unset)), (if (p5 &&& (15 : Int32)) < (9 : Int32) then (Slot.val (.int (own_M0_144 p1 p2 p3 p5))) else (Slot.unset)), .unset] [(.ref b1365), (.ref b1340), (.ref b1296), (.ref as1328), (.int (0 : Int32)), (.ref b1323), (.ref b1323)])) ReturnedEndW
        obtain ⟨T1392, Lc1392, L1392, X1392, N1392, hQ1392, st1392⟩ := own_shutV (val := none) (Q := own_Q8_3 Z b1323 (0 : Int32) as1328 b1296 b1340 b1365 .null (0 : Int32) .null .null .null .null k1296 (own_F1 p1 (own_F1 p2 p3)) (own_F2 (own_F1 p1 p2) (own_F1 (own_F2 p1 p2) p3)) (own_F2 p1 (own_F2 p2 p3)) sa T1378.heap n0) (rc := 4) (rs := 12) N1378 (fun _ _ _ q => ⟨q.1, q.2.1⟩) (X1378.specialBack hx (y := (⟨"com/example/arcwise/arcwise/network/Variable", "<init>", "(ILjava/lang/String;[ILcom/example/arcwise/arcwise/network/Trail;Ljava/util/List;)V"⟩ : MethodName)) rfl hown (mvT hZ (hw _ (List.mem_of_getElem? (i := 58) rfl))) (mvT hZ (hw _ (List.mem_of_getElem? (i := 59) rfl))) (mvT hZ (hw _ (List.mem_of_getElem? (i := 60) rfl))) (by decide) (backOf (W := 1) (own_rm8_3 l Z a0 hw [] b1323 (0 : Int32) as1328 b1296 b1340 b1365 .null (0 : Int32) .null .null .null .null k1296 (own_F1 p1 (own_F1 p2 p3)) (own_F2 (own_F1 p1 p2) (own_F1 (own_F2 p1 p2) p3)) (own_F2 p1 (own_F2 p2 p3)) sa T1378.heap n0 Z1391 A1323_1382 F_b1323_constraints_1383 F_b1323_index_1384 F_b1323_name_1385 F_b1323_values_1386 F_b1323_domain_1387 F_b1323_assignmentListeners_1388 V_b1296_1381 Ex1296_1380 (Ne.symm ne_b1296_b1323) S_dc_1379 g_b1323) hZ (hw _ (List.mem_of_getElem? (i := 60) rfl)) (hw _ (List.mem_of_getElem? (i := 10) rfl)) (by decide) (by decide)) (g := (mkF m 210 #[.val (.int p0), .val (.int p1), .val (.int p2), .val (.int p3), .val (.long q4), .second, .val (.int p5), .val (.int (own_F1 p1 (own_F1 p2 p3))), .val (.int (own_F2 p1 (own_F2 p2 p3))), .val (.int (own_F2 (own_F1 p1 p2) (own_F1 (own_F2 p1 p2) p3))), .val (.int (3 : Int32)), .val (.ref b1296), .val (.int (p5 &&& (15 : Int32))), .val (.long (own_M0_133 p1 p2 p3 q4 p5)), .second, (if (p5 &&& (15 : Int32)) < (9 : Int32) then (Slot.val (.int ((p5 &&& (15 : Int32)) / (3 : Int32)))) else (Slot.unset)), (if (p5 &&& (15 : Int32)) < (9 : Int32) then (Slot.val (.int (own_M0_144 p1 p2 p3 p5))) else (Slot.unset)), .unset] [(.ref b1365), (.ref b1340), (.ref b1296), (.ref as1328), (.int (0 : Int32)), (.ref b1323), (.ref b1323)])) rfl (by rw [hml]; rfl) (Steps.refl _) (a := b1323) (argsL := [(.int (0 : Int32)), (.ref as1328), (.ref b1296), (.ref b1340), (.ref b1365)]) (rest := [(.ref b1323)]) (lenOf own_pd3 rfl) rfl (by show 2 * 0 + _ ≤ _; exact Nat.le_of_eq rfl) (hb hby at_210) (fun _ _ => ⟨rfl, rfl, (by decide : 8 + 4 ≤ _), (by decide : 537 + 12 ≤ _)⟩))
        obtain ⟨-, -, K1392, b1392_0, k1392_0, sb1392_0, Q1392_0, Q1392_1, Q1392_2, Q1392_3⟩ := hQ1392
        have ne_b1296_b1392_0 : b1296 ≠ b1392_0 := Nat.ne_of_lt (Nat.lt_of_lt_of_le Ex1296_1380.lt sb1392_0)
        have ne_b1323_b1392_0 : b1323 ≠ b1392_0 := Nat.ne_of_lt (Nat.lt_of_lt_of_le A1323_1382.lt sb1392_0)
        have ne_b1340_b1392_0 : b1340 ≠ b1392_0 := Nat.ne_of_lt (Nat.lt_of_lt_of_le Q1352_1389.lt sb1392_0)
        have ne_b1365_b1392_0 : b1365 ≠ b1392_0 := Nat.ne_of_lt (Nat.lt_of_lt_of_le Q1378_0.lt sb1392_0)
        have g_b1392_0 : n0 ≤ b1392_0 := Nat.le_trans Z1391 sb1392_0
        have S_dc_1393 := own_StaK S_dc_1379 K1392 (allS (P := fun o => ∃ C, Exa Z _ o C) ⟨_, A1323_1382⟩ all0)
        have Ex1296_1394 := Ex1296_1380.keep K1392
        have V_b1296_1395 := V_b1296_1381.keep K1392 (ninS ne_b1296_b1323 nin0)
        have A1323_1396 := A1323_1382.keep K1392
        have Q1352_1397 := Q1352_1389.keep K1392
        have Q1378_1398 := Q1378_0.keep K1392
        have Z1399 := Nat.le_trans Z1391 K1392.1
        have kZ1399 := Nat.le_trans kZ1391 K1392.1
        refine own_via st1392 ?_
        show own_End p e below s _ _ _ (T1392.setTop (mkF m 213 #[.val (.int p0), .val (.int p1), .val (.int p2), .val (.int p3), .val (.long q4), .second, .val (.int p5), .val (.int (own_F1 p1 (own_F1 p2 p3))), .val (.int (own_F2 p1 (own_F2 p2 p3))), .val (.int (own_F2 (own_F1 p1 p2) (own_F1 (own_F2 p1 p2) p3))), .val (.int (3 : Int32)), .val (.ref b1296), .val (.int (p5 &&& (15 : Int32))), .val (.long (own_M0_133 p1 p2 p3 q4 p5)), .second, (if (p5 &&& (15 : Int32)) < (9 : Int32) then (Slot.val (.int ((p5 &&& (15 : Int32)) / (3 : Int32)))) else (Slot.unset)), (if (p5 &&& (15 : Int32)) < (9 : Int32) then (Slot.val (.int (own_M0_144 p1 p2 p3 p5))) else (Slot.unset)), .unset] [(.ref b1323)])) ReturnedEndW
        refine own_astore X1392 hx (hb hby at_213) rfl (l' := #[.val (.int p0), .val (.int p1), .val (.int p2), .val (.int p3), .val (.long q4), .second, .val (.int p5), .val (.int (own_F1 p1 (own_F1 p2 p3))), .val (.int (own_F2 p1 (own_F2 p2 p3))), .val (.int (own_F2 (own_F1 p1 p2) (own_F1 (own_F2 p1 p2) p3))), .val (.int (3 : Int32)), .val (.ref b1296), .val (.int (p5 &&& (15 : Int32))), .val (.long (own_M0_133 p1 p2 p3 q4 p5)), .second, .val (.ref b1323), (if (p5 &&& (15 : Int32)) < (9 : Int32) then (Slot.val (.int (own_M0_144 p1 p2 p3 p5))) else (Slot.unset)), .unset]) (Or.elim (Classical.em ((p5 &&& (15 : Int32)) < (9 : Int32))) (fun hz0 => (by simp only [if_pos hz0]; rfl)) (fun hz0 => (by simp only [if_neg hz0]; rfl))) (q := 215) rfl ?_
        refine own_aload X1392 hx (hb hby at_215) rfl rfl (q := 217) rfl ?_
        refine own_lload X1392 hx (hb hby at_217) rfl (q := 219) rfl ?_
        obtain ⟨cq1400, kq1400, q1400a, q1400b, q1400c⟩ := isOf hZ rfl Q1392_0
        obtain ⟨T1400, Lc1400, L1400, X1400, N1400, hQ1400, st1400⟩ := own_shutV (val := some (.int (own_F10_3 (own_M0_133 p1 p2 p3 q4 p5) (own_F1 p1 (own_F1 p2 p3)) (own_F2 (own_F1 p1 p2) (own_F1 (own_F2 p1 p2) p3)) (own_F2 p1 (own_F2 p2 p3))))) (Q := own_Q10_3 Z b1323 (own_M0_133 p1 p2 p3 q4 p5) b1392_0 k1392_0 (own_F1 p1 (own_F1 p2 p3)) (own_F2 (own_F1 p1 p2) (own_F1 (own_F2 p1 p2) p3)) (own_F2 p1 (own_F2 p2 p3)) T1392.heap n0) (rc := 0) (rs := 0) N1392 (fun _ _ _ q => ⟨q.1, q.2.1⟩) (X1392.virtualBack hx (y := (⟨"com/example/arcwise/arcwise/network/Variable", "indexAtLeast", "(J)I"⟩ : MethodName)) (z := (⟨"com/example/arcwise/arcwise/network/Variable", "indexAtLeast", "(J)I"⟩ : MethodName)) hown (mvT hZ (hw _ (List.mem_of_getElem? (i := 101) rfl))) (mvT hZ (hw _ (List.mem_of_getElem? (i := 102) rfl))) (notFace_of_selects (args := #[]) (mvT hZ (hw _ (List.mem_of_getElem? (i := 104) rfl)))) (mvT hZ (hw _ (List.mem_of_getElem? (i := 104) rfl))) (mvT hZ (hw _ (List.mem_of_getElem? (i := 103) rfl))) (by decide) (backOf (W := 0) (own_rm10_3 l Z a0 hw [] b1323 (own_M0_133 p1 p2 p3 q4 p5) b1392_0 k1392_0 (own_F1 p1 (own_F1 p2 p3)) (own_F2 (own_F1 p1 p2) (own_F1 (own_F2 p1 p2) p3)) (own_F2 p1 (own_F2 p2 p3)) T1392.heap n0 Z1399 Q1392_0 Q1392_1 Q1392_3) hZ (hw _ (List.mem_of_getElem? (i := 105) rfl)) (hw _ (List.mem_of_getElem? (i := 10) rfl)) (by decide) (by decide)) q1400a q1400c (g := (mkF m 219 #[.val (.int p0), .val (.int p1), .val (.int p2), .val (.int p3), .val (.long q4), .second, .val (.int p5), .val (.int (own_F1 p1 (own_F1 p2 p3))), .val (.int (own_F2 p1 (own_F2 p2 p3))), .val (.int (own_F2 (own_F1 p1 p2) (own_F1 (own_F2 p1 p2) p3))), .val (.int (3 : Int32)), .val (.ref b1296), .val (.int (p5 &&& (15 : Int32))), .val (.long (own_M0_133 p1 p2 p3 q4 p5)), .second, .val (.ref b1323), (if (p5 &&& (15 : Int32)) < (9 : Int32) then (Slot.val (.int (own_M0_144 p1 p2 p3 p5))) else (Slot.unset)), .unset] [(.long (own_M0_133 p1 p2 p3 q4 p5)), (.ref b1323)])) rfl (by rw [hml]; rfl) (Steps.refl _) (argsL := [(.long (own_M0_133 p1 p2 p3 q4 p5))]) (rest := []) (lenOf own_pd4 rfl) rfl (by show 2 * 0 + _ ≤ _; exact Nat.le_of_eq rfl) (hb hby at_219) (fun _ _ => ⟨rfl, rfl, (by decide : 12 + 0 ≤ _), (by decide : 549 + 0 ≤ _)⟩))
        obtain ⟨-, -, e1400⟩ := hQ1400
        refine own_via st1400 ?_
        show own_End p e below s _ _ _ (T1400.setTop (mkF m 222 #[.val (.int p0), .val (.int p1), .val (.int p2), .val (.int p3), .val (.long q4), .second, .val (.int p5), .val (.int (own_F1 p1 (own_F1 p2 p3))), .val (.int (own_F2 p1 (own_F2 p2 p3))), .val (.int (own_F2 (own_F1 p1 p2) (own_F1 (own_F2 p1 p2) p3))), .val (.int (3 : Int32)), .val (.ref b1296), .val (.int (p5 &&& (15 : Int32))), .val (.long (own_M0_133 p1 p2 p3 q4 p5)), .second, .val (.ref b1323), (if (p5 &&& (15 : Int32)) < (9 : Int32) then (Slot.val (.int (own_M0_144 p1 p2 p3 p5))) else (Slot.unset)), .unset] [(.int (own_F10_3 (own_M0_133 p1 p2 p3 q4 p5) (own_F1 p1 (own_F1 p2 p3)) (own_F2 (own_F1 p1 p2) (own_F1 (own_F2 p1 p2) p3)) (own_F2 p1 (own_F2 p2 p3))))])) ReturnedEndW
        refine own_istore X1400 hx (hb hby at_222) (l' := #[.val (.int p0), .val (.int p1), .val (.int p2), .val (.int p3), .val (.long q4), .second, .val (.int p5), .val (.int (own_F1 p1 (own_F1 p2 p3))), .val (.int (own_F2 p1 (own_F2 p2 p3))), .val (.int (own_F2 (own_F1 p1 p2) (own_F1 (own_F2 p1 p2) p3))), .val (.int (3 : Int32)), .val (.ref b1296), .val (.int (p5 &&& (15 : Int32))), .val (.long (own_M0_133 p1 p2 p3 q4 p5)), .second, .val (.ref b1323), .val (.int (own_F10_3 (own_M0_133 p1 p2 p3 q4 p5) (own_F1 p1 (own_F1 p2 p3)) (own_F2 (own_F1 p1 p2) (own_F1 (own_F2 p1 p2) p3)) (own_F2 p1 (own_F2 p2 p3)))), .unset]) (Or.elim (Classical.em ((p5 &&& (15 : Int32)) < (9 : Int32))) (fun hz0 => (by simp only [if_pos hz0]; rfl)) (fun hz0 => (by simp only [if_neg hz0]; rfl))) (q := 224) rfl ?_
        refine own_iconst X1400 hx (hb hby at_224) (z := 0) rfl (q := 225) rfl ?_
        refine own_istore X1400 hx (hb hby at_225) (l' := #[.val (.int p0), .val (.int p1), .val (.int p2), .val (.int p3), .val (.long q4), .second, .val (.int p5), .val (.int (own_F1 p1 (own_F1 p2 p3))), .val (.int (own_F2 p1 (own_F2 p2 p3))), .val (.int (own_F2 (own_F1 p1 p2) (own_F1 (own_F2 p1 p2) p3))), .val (.int (3 : Int32)), .val (.ref b1296), .val (.int (p5 &&& (15 : Int32))), .val (.long (own_M0_133 p1 p2 p3 q4 p5)), .second, .val (.ref b1323), .val (.int (own_F10_3 (own_M0_133 p1 p2 p3 q4 p5) (own_F1 p1 (own_F1 p2 p3)) (own_F2 (own_F1 p1 p2) (own_F1 (own_F2 p1 p2) p3)) (own_F2 p1 (own_F2 p2 p3)))), .val (.int (0 : Int32))]) rfl (q := 227) rfl ?_
        refine own_iload X1400 hx (hb hby at_227) rfl (q := 229) rfl ?_
        refine own_ifN X1400 hx (hb hby at_229) (tlt (by decide : ((0 : Int32) < (3 : Int32)))).2.2.2 (q := 232) rfl ?_
        refine own_aload X1400 hx (hb hby at_232) rfl rfl (q := 234) rfl ?_
        refine own_iconst X1400 hx (hb hby at_234) (z := 0) rfl (q := 235) rfl ?_
        obtain ⟨cl1401, Ar1401, q1401, S1401, N1401v, H1401, G1401⟩ := id V_b1296_1395
        have hin1401 : ¬ ((0 : Int32) < 0 ∨ cl1401.slots.size ≤ ((0 : Int32)).toNatClampNeg) := inb_of S1401 ⟨by decide, by decide⟩
        refine own_back (X1400.iaload hx (j := (0 : Int32)) (v := (.int (own_F1 p1 (own_F1 p2 p3)))) (by rw [e1400]; exact Ar1401.1) (State.isArrayOf_alike hZ.alike Ar1401.2.1) Ar1401.2.2 hin1401 (Has.at H1401 hin1401 rfl) (g := (mkF m 235 #[.val (.int p0), .val (.int p1), .val (.int p2), .val (.int p3), .val (.long q4), .second, .val (.int p5), .val (.int (own_F1 p1 (own_F1 p2 p3))), .val (.int (own_F2 p1 (own_F2 p2 p3))), .val (.int (own_F2 (own_F1 p1 p2) (own_F1 (own_F2 p1 p2) p3))), .val (.int (3 : Int32)), .val (.ref b1296), .val (.int (p5 &&& (15 : Int32))), .val (.long (own_M0_133 p1 p2 p3 q4 p5)), .second, .val (.ref b1323), .val (.int (own_F10_3 (own_M0_133 p1 p2 p3 q4 p5) (own_F1 p1 (own_F1 p2 p3)) (own_F2 (own_F1 p1 p2) (own_F1 (own_F2 p1 p2) p3)) (own_F2 p1 (own_F2 p2 p3)))), .val (.int (0 : Int32))] [(.int (0 : Int32)), (.ref b1296)])) rfl rfl (hb hby at_235)) ?_
        show own_End p e below s _ _ _ (T1400.setTop (mkF m 236 #[.val (.int p0), .val (.int p1), .val (.int p2), .val (.int p3), .val (.long q4), .second, .val (.int p5), .val (.int (own_F1 p1 (own_F1 p2 p3))), .val (.int (own_F2 p1 (own_F2 p2 p3))), .val (.int (own_F2 (own_F1 p1 p2) (own_F1 (own_F2 p1 p2) p3))), .val (.int (3 : Int32)), .val (.ref b1296), .val (.int (p5 &&& (15 : Int32))), .val (.long (own_M0_133 p1 p2 p3 q4 p5)), .second, .val (.ref b1323), .val (.int (own_F10_3 (own_M0_133 p1 p2 p3 q4 p5) (own_F1 p1 (own_F1 p2 p3)) (own_F2 (own_F1 p1 p2) (own_F1 (own_F2 p1 p2) p3)) (own_F2 p1 (own_F2 p2 p3)))), .val (.int (0 : Int32))] [(.int (own_F1 p1 (own_F1 p2 p3)))])) ReturnedEndW
        refine own_i2l X1400 hx (hb hby at_236) (q := 237) rfl ?_
        refine own_lload X1400 hx (hb hby at_237) rfl (q := 239) rfl ?_
        suffices J1405 : own_End p e below s (own_Q0 Z p0 p1 p2 p3 q4 p5 sa h0 n0) room_1.cells room_1.slots (T1400.setTop (mkF m 246 #[.val (.int p0), .val (.int p1), .val (.int p2), .val (.int p3), .val (.long q4), .second, .val (.int p5), .val (.int (own_F1 p1 (own_F1 p2 p3))), .val (.int (own_F2 p1 (own_F2 p2 p3))), .val (.int (own_F2 (own_F1 p1 p2) (own_F1 (own_F2 p1 p2) p3))), .val (.int (3 : Int32)), .val (.ref b1296), .val (.int (p5 &&& (15 : Int32))), .val (.long (own_M0_133 p1 p2 p3 q4 p5)), .second, .val (.ref b1323), .val (.int (own_F10_3 (own_M0_133 p1 p2 p3 q4 p5) (own_F1 p1 (own_F1 p2 p3)) (own_F2 (own_F1 p1 p2) (own_F1 (own_F2 p1 p2) p3)) (own_F2 p1 (own_F2 p2 p3)))), .val (.int (own_M0_240 p1 p2 p3 q4 p5))] [])) ReturnedEndW by
          by_cases hc240_1402 : ((own_F1 p1 (own_F1 p2 p3)).toInt64) < (own_M0_133 p1 p2 p3 q4 p5)
          · refine own_lcN X1400 hx (hb hby at_239) (r := 240) rfl (hb hby at_240) (own_tlt hc240_1402).2.1 (q := 243) rfl ?_
            refine own_iinc X1400 hx (hb hby at_243) rfl (z := 1) rfl (l' := #[.val (.int p0), .val (.int p1), .val (.int p2), .val (.int p3), .val (.long q4), .second, .val (.int p5), .val (.int (own_F1 p1 (own_F1 p2 p3))), .val (.int (own_F2 p1 (own_F2 p2 p3))), .val (.int (own_F2 (own_F1 p1 p2) (own_F1 (own_F2 p1 p2) p3))), .val (.int (3 : Int32)), .val (.ref b1296), .val (.int (p5 &&& (15 : Int32))), .val (.long (own_M0_133 p1 p2 p3 q4 p5)), .second, .val (.ref b1323), .val (.int (own_F10_3 (own_M0_133 p1 p2 p3 q4 p5) (own_F1 p1 (own_F1 p2 p3)) (own_F2 (own_F1 p1 p2) (own_F1 (own_F2 p1 p2) p3)) (own_F2 p1 (own_F2 p2 p3)))), .val (.int (1 : Int32))]) rfl (q := 246) rfl ?_
            simp only [own_M0_240, if_pos hc240_1402] at J1405
            exact J1405
          · refine own_lcY X1400 hx (hb hby at_239) (r := 240) rfl (hb hby at_240) (own_flt hc240_1402).2.1 (q := 246) (by decide) (by decide) ?_
            simp only [own_M0_240, if_neg hc240_1402] at J1405
            exact J1405
        refine own_iload X1400 hx (hb hby at_246) rfl (q := 248) rfl ?_
        refine own_iconst X1400 hx (hb hby at_248) (z := 1) rfl (q := 249) rfl ?_
        refine own_icN X1400 hx (hb hby at_249) (tlt (by decide : ((1 : Int32) < (3 : Int32)))).2.2.2 (q := 252) rfl ?_
        refine own_aload X1400 hx (hb hby at_252) rfl rfl (q := 254) rfl ?_
        refine own_iconst X1400 hx (hb hby at_254) (z := 1) rfl (q := 255) rfl ?_
        obtain ⟨cl1406, Ar1406, q1406, S1406, N1406v, H1406, G1406⟩ := id V_b1296_1395
        have hin1406 : ¬ ((1 : Int32) < 0 ∨ cl1406.slots.size ≤ ((1 : Int32)).toNatClampNeg) := inb_of S1406 ⟨by decide, by decide⟩
        refine own_back (X1400.iaload hx (j := (1 : Int32)) (v := (.int (own_F2 (own_F1 p1 p2) (own_F1 (own_F2 p1 p2) p3)))) (by rw [e1400]; exact Ar1406.1) (State.isArrayOf_alike hZ.alike Ar1406.2.1) Ar1406.2.2 hin1406 (Has.at H1406 hin1406 rfl) (g := (mkF m 255 #[.val (.int p0), .val (.int p1), .val (.int p2), .val (.int p3), .val (.long q4), .second, .val (.int p5), .val (.int (own_F1 p1 (own_F1 p2 p3))), .val (.int (own_F2 p1 (own_F2 p2 p3))), .val (.int (own_F2 (own_F1 p1 p2) (own_F1 (own_F2 p1 p2) p3))), .val (.int (3 : Int32)), .val (.ref b1296), .val (.int (p5 &&& (15 : Int32))), .val (.long (own_M0_133 p1 p2 p3 q4 p5)), .second, .val (.ref b1323), .val (.int (own_F10_3 (own_M0_133 p1 p2 p3 q4 p5) (own_F1 p1 (own_F1 p2 p3)) (own_F2 (own_F1 p1 p2) (own_F1 (own_F2 p1 p2) p3)) (own_F2 p1 (own_F2 p2 p3)))), .val (.int (own_M0_240 p1 p2 p3 q4 p5))] [(.int (1 : Int32)), (.ref b1296)])) rfl rfl (hb hby at_255)) ?_
        show own_End p e below s _ _ _ (T1400.setTop (mkF m 256 #[.val (.int p0), .val (.int p1), .val (.int p2), .val (.int p3), .val (.long q4), .second, .val (.int p5), .val (.int (own_F1 p1 (own_F1 p2 p3))), .val (.int (own_F2 p1 (own_F2 p2 p3))), .val (.int (own_F2 (own_F1 p1 p2) (own_F1 (own_F2 p1 p2) p3))), .val (.int (3 : Int32)), .val (.ref b1296), .val (.int (p5 &&& (15 : Int32))), .val (.long (own_M0_133 p1 p2 p3 q4 p5)), .second, .val (.ref b1323), .val (.int (own_F10_3 (own_M0_133 p1 p2 p3 q4 p5) (own_F1 p1 (own_F1 p2 p3)) (own_F2 (own_F1 p1 p2) (own_F1 (own_F2 p1 p2) p3)) (own_F2 p1 (own_F2 p2 p3)))), .val (.int (own_M0_240 p1 p2 p3 q4 p5))] [(.int (own_F2 (own_F1 p1 p2) (own_F1 (own_F2 p1 p2) p3)))])) ReturnedEndW
        refine own_i2l X1400 hx (hb hby at_256) (q := 257) rfl ?_
        refine own_lload X1400 hx (hb hby at_257) rfl (q := 259) rfl ?_
        suffices J1410 : own_End p e below s (own_Q0 Z p0 p1 p2 p3 q4 p5 sa h0 n0) room_1.cells room_1.slots (T1400.setTop (mkF m 266 #[.val (.int p0), .val (.int p1), .val (.int p2), .val (.int p3), .val (.long q4), .second, .val (.int p5), .val (.int (own_F1 p1 (own_F1 p2 p3))), .val (.int (own_F2 p1 (own_F2 p2 p3))), .val (.int (own_F2 (own_F1 p1 p2) (own_F1 (own_F2 p1 p2) p3))), .val (.int (3 : Int32)), .val (.ref b1296), .val (.int (p5 &&& (15 : Int32))), .val (.long (own_M0_133 p1 p2 p3 q4 p5)), .second, .val (.ref b1323), .val (.int (own_F10_3 (own_M0_133 p1 p2 p3 q4 p5) (own_F1 p1 (own_F1 p2 p3)) (own_F2 (own_F1 p1 p2) (own_F1 (own_F2 p1 p2) p3)) (own_F2 p1 (own_F2 p2 p3)))), .val (.int (own_M0_260_b p1 p2 p3 q4 p5))] [])) ReturnedEndW by
          by_cases hc260_1407 : ((own_F2 (own_F1 p1 p2) (own_F1 (own_F2 p1 p2) p3)).toInt64) < (own_M0_133 p1 p2 p3 q4 p5)
          · refine own_lcN X1400 hx (hb hby at_259) (r := 260) rfl (hb hby at_260) (own_tlt hc260_1407).2.1 (q := 263) rfl ?_
            refine own_iinc X1400 hx (hb hby at_263) rfl (z := 1) rfl (l' := #[.val (.int p0), .val (.int p1), .val (.int p2), .val (.int p3), .val (.long q4), .second, .val (.int p5), .val (.int (own_F1 p1 (own_F1 p2 p3))), .val (.int (own_F2 p1 (own_F2 p2 p3))), .val (.int (own_F2 (own_F1 p1 p2) (own_F1 (own_F2 p1 p2) p3))), .val (.int (3 : Int32)), .val (.ref b1296), .val (.int (p5 &&& (15 : Int32))), .val (.long (own_M0_133 p1 p2 p3 q4 p5)), .second, .val (.ref b1323), .val (.int (own_F10_3 (own_M0_133 p1 p2 p3 q4 p5) (own_F1 p1 (own_F1 p2 p3)) (own_F2 (own_F1 p1 p2) (own_F1 (own_F2 p1 p2) p3)) (own_F2 p1 (own_F2 p2 p3)))), .val (.int ((own_M0_240 p1 p2 p3 q4 p5) + (1 : Int32)))]) rfl (q := 266) rfl ?_
            simp only [own_M0_260_b, if_pos hc260_1407] at J1410
            exact J1410
          · refine own_lcY X1400 hx (hb hby at_259) (r := 260) rfl (hb hby at_260) (own_flt hc260_1407).2.1 (q := 266) (by decide) (by decide) ?_
            simp only [own_M0_260_b, if_neg hc260_1407] at J1410
            exact J1410
        refine own_iload X1400 hx (hb hby at_266) rfl (q := 268) rfl ?_
        refine own_iconst X1400 hx (hb hby at_268) (z := 2) rfl (q := 269) rfl ?_
        refine own_icN X1400 hx (hb hby at_269) (tlt (by decide : ((2 : Int32) < (3 : Int32)))).2.2.2 (q := 272) rfl ?_
        refine own_aload X1400 hx (hb hby at_272) rfl rfl (q := 274) rfl ?_
        refine own_iconst X1400 hx (hb hby at_274) (z := 2) rfl (q := 275) rfl ?_
        obtain ⟨cl1411, Ar1411, q1411, S1411, N1411v, H1411, G1411⟩ := id V_b1296_1395
        have hin1411 : ¬ ((2 : Int32) < 0 ∨ cl1411.slots.size ≤ ((2 : Int32)).toNatClampNeg) := inb_of S1411 ⟨by decide, by decide⟩
        refine own_back (X1400.iaload hx (j := (2 : Int32)) (v := (.int (own_F2 p1 (own_F2 p2 p3)))) (by rw [e1400]; exact Ar1411.1) (State.isArrayOf_alike hZ.alike Ar1411.2.1) Ar1411.2.2 hin1411 (Has.at H1411 hin1411 rfl) (g := (mkF m 275 #[.val (.int p0), .val (.int p1), .val (.int p2), .val (.int p3), .val (.long q4), .second, .val (.int p5), .val (.int (own_F1 p1 (own_F1 p2 p3))), .val (.int (own_F2 p1 (own_F2 p2 p3))), .val (.int (own_F2 (own_F1 p1 p2) (own_F1 (own_F2 p1 p2) p3))), .val (.int (3 : Int32)), .val (.ref b1296), .val (.int (p5 &&& (15 : Int32))), .val (.long (own_M0_133 p1 p2 p3 q4 p5)), .second, .val (.ref b1323), .val (.int (own_F10_3 (own_M0_133 p1 p2 p3 q4 p5) (own_F1 p1 (own_F1 p2 p3)) (own_F2 (own_F1 p1 p2) (own_F1 (own_F2 p1 p2) p3)) (own_F2 p1 (own_F2 p2 p3)))), .val (.int (own_M0_260_b p1 p2 p3 q4 p5))] [(.int (2 : Int32)), (.ref b1296)])) rfl rfl (hb hby at_275)) ?_
        show own_End p e below s _ _ _ (T1400.setTop (mkF m 276 #[.val (.int p0), .val (.int p1), .val (.int p2), .val (.int p3), .val (.long q4), .second, .val (.int p5), .val (.int (own_F1 p1 (own_F1 p2 p3))), .val (.int (own_F2 p1 (own_F2 p2 p3))), .val (.int (own_F2 (own_F1 p1 p2) (own_F1 (own_F2 p1 p2) p3))), .val (.int (3 : Int32)), .val (.ref b1296), .val (.int (p5 &&& (15 : Int32))), .val (.long (own_M0_133 p1 p2 p3 q4 p5)), .second, .val (.ref b1323), .val (.int (own_F10_3 (own_M0_133 p1 p2 p3 q4 p5) (own_F1 p1 (own_F1 p2 p3)) (own_F2 (own_F1 p1 p2) (own_F1 (own_F2 p1 p2) p3)) (own_F2 p1 (own_F2 p2 p3)))), .val (.int (own_M0_260_b p1 p2 p3 q4 p5))] [(.int (own_F2 p1 (own_F2 p2 p3)))])) ReturnedEndW
        refine own_i2l X1400 hx (hb hby at_276) (q := 277) rfl ?_
        refine own_lload X1400 hx (hb hby at_277) rfl (q := 279) rfl ?_
        suffices J1415 : own_End p e below s (own_Q0 Z p0 p1 p2 p3 q4 p5 sa h0 n0) room_1.cells room_1.slots (T1400.setTop (mkF m 286 #[.val (.int p0), .val (.int p1), .val (.int p2), .val (.int p3), .val (.long q4), .second, .val (.int p5), .val (.int (own_F1 p1 (own_F1 p2 p3))), .val (.int (own_F2 p1 (own_F2 p2 p3))), .val (.int (own_F2 (own_F1 p1 p2) (own_F1 (own_F2 p1 p2) p3))), .val (.int (3 : Int32)), .val (.ref b1296), .val (.int (p5 &&& (15 : Int32))), .val (.long (own_M0_133 p1 p2 p3 q4 p5)), .second, .val (.ref b1323), .val (.int (own_F10_3 (own_M0_133 p1 p2 p3 q4 p5) (own_F1 p1 (own_F1 p2 p3)) (own_F2 (own_F1 p1 p2) (own_F1 (own_F2 p1 p2) p3)) (own_F2 p1 (own_F2 p2 p3)))), .val (.int (own_M0_280 p1 p2 p3 q4 p5))] [])) ReturnedEndW by
          by_cases hc280_1412 : ((own_F2 p1 (own_F2 p2 p3)).toInt64) < (own_M0_133 p1 p2 p3 q4 p5)
          · refine own_lcN X1400 hx (hb hby at_279) (r := 280) rfl (hb hby at_280) (own_tlt hc280_1412).2.1 (q := 283) rfl ?_
            refine own_iinc X1400 hx (hb hby at_283) rfl (z := 1) rfl (l' := #[.val (.int p0), .val (.int p1), .val (.int p2), .val (.int p3), .val (.long q4), .second, .val (.int p5), .val (.int (own_F1 p1 (own_F1 p2 p3))), .val (.int (own_F2 p1 (own_F2 p2 p3))), .val (.int (own_F2 (own_F1 p1 p2) (own_F1 (own_F2 p1 p2) p3))), .val (.int (3 : Int32)), .val (.ref b1296), .val (.int (p5 &&& (15 : Int32))), .val (.long (own_M0_133 p1 p2 p3 q4 p5)), .second, .val (.ref b1323), .val (.int (own_F10_3 (own_M0_133 p1 p2 p3 q4 p5) (own_F1 p1 (own_F1 p2 p3)) (own_F2 (own_F1 p1 p2) (own_F1 (own_F2 p1 p2) p3)) (own_F2 p1 (own_F2 p2 p3)))), .val (.int ((own_M0_260_b p1 p2 p3 q4 p5) + (1 : Int32)))]) rfl (q := 286) rfl ?_
            simp only [own_M0_280, if_pos hc280_1412] at J1415
            exact J1415
          · refine own_lcY X1400 hx (hb hby at_279) (r := 280) rfl (hb hby at_280) (own_flt hc280_1412).2.1 (q := 286) (by decide) (by decide) ?_
            simp only [own_M0_280, if_neg hc280_1412] at J1415
            exact J1415
        refine own_iload X1400 hx (hb hby at_286) rfl (q := 288) rfl ?_
        refine own_iload X1400 hx (hb hby at_288) rfl (q := 290) rfl ?_
        have hk1416 : (own_F10_3 (own_M0_133 p1 p2 p3 q4 p5) (own_F1 p1 (own_F1 p2 p3)) (own_F2 (own_F1 p1 p2) (own_F1 (own_F2 p1 p2) p3)) (own_F2 p1 (own_F2 p2 p3))) = (own_M0_280 p1 p2 p3 q4 p5) := by rw [own_M0_280, own_M0_260_b, own_M0_240]; exact own_bs3 _ _ _ _ (own_lomid _ _ _) (own_midhi _ _ _)
        refine own_icN X1400 hx (hb hby at_290) (teq hk1416).2 (q := 293) rfl ?_
        refine own_iconst X1400 hx (hb hby at_293) (z := 1) rfl (q := 294) rfl ?_
        refine own_goto X1400 hx (hb hby at_294) (q := 298) (by decide) (by decide) ?_
        refine own_retNW X1400 hx hS1328 (by rw [e1400]; exact kZ1399) (t := .boolean) (by simp) Bd.returns Bd.notSynchronized (by decide) (by decide) (hb hby at_298) ?_
        show own_Q0 Z p0 p1 p2 p3 q4 p5 sa h0 n0 _ T1400.heap _
        exact ⟨rfl, N1400⟩

set_option maxRecDepth 65536 in
set_option maxHeartbeats 40000000 in
theorem comes_1 {Post : Tables → Env → Array Value → State → Outcome → State → Prop} (hpost : ∀ tb e args s v u, (limb_1_1.after args s (.returned v) u = true ∧ limb_1_2.after args s (.returned v) u = true ∧ True) → FramedW s (.returned v) u (Jvm.fieldLocs frame_1_writes args s ++ Jvm.arrayLocs frame_1_arrays args s ++ Jvm.staticLocs frame_1_statics s) 32 2176 → Post tb e args s (.returned v) u) :
    ArmFor flags0 classFile x code maxLocals ret World_1 tables_1 room_1 Calls_1 rest_1 Pre_1 Post := by
  intro l hfl _ _ p e ha hc hk s m args below hf hA hF happ hP
  obtain ⟨hcalls, hrest, hpre⟩ := hP
  obtain ⟨-, -, -, hnamed, -, -, -, hat⟩ := (Spec.applies_iff hf).mp happ
  obtain ⟨hg, hn⟩ := and_e (Cond.before_iff.mp (show (Jvm.Cond.and given_1 narrow_1).before args s = true from hpre))
  obtain ⟨g1418, g1419⟩ := and_e hg
  obtain ⟨g1420, g1421⟩ := and_e g1419
  obtain ⟨g1422, g1423⟩ := and_e g1421
  obtain ⟨g1424, g1425⟩ := and_e g1423
  obtain ⟨g1426, g1427⟩ := and_e g1425
  obtain ⟨g1428, g1429⟩ := and_e g1427
  obtain ⟨w0, w1, w2, w3, w4, w5, rfl⟩ : ∃ w0 w1 w2 w3 w4 w5 : Value, args = #[w0, w1, w2, w3, w4, w5] := by
    have hs : args.size = 6 := by simpa [Cond.value, given_1] using g1418
    obtain ⟨L⟩ := args
    match L, hs with
    | [w0, w1, w2, w3, w4, w5], _ => exact ⟨w0, w1, w2, w3, w4, w5, rfl⟩
  have hw := fun d (hd : d ∈ tables_1) => atoms_spec (ws := Jvm.Cond.code x code maxLocals ret :: tables_1) hat d (List.mem_cons_of_mem _ hd)
  have hfit : Fit s := fun {y c} hc i hi => by
    obtain ⟨ha, rfl⟩ := Array.getElem?_eq_some_iff.mp hc
    have q := List.all_eq_true.mp ((Array.all_eq_true_iff_forall_mem.mp hF) _ (Array.getElem_mem ha)) i (List.mem_range.mpr hi)
    simpa [Array.getElem?_eq_getElem hi] using q
  obtain ⟨i0, ei0⟩ := is_v g1420
  obtain rfl : w0 = (.int i0) := Option.some.inj ei0
  obtain ⟨i1, ei1⟩ := is_v g1422
  obtain rfl : w1 = (.int i1) := Option.some.inj ei1
  obtain ⟨i2, ei2⟩ := is_v g1424
  obtain rfl : w2 = (.int i2) := Option.some.inj ei2
  obtain ⟨i3, ei3⟩ := is_v g1426
  obtain rfl : w3 = (.int i3) := Option.some.inj ei3
  obtain ⟨i4, ei4⟩ := isL_v g1428
  obtain rfl : w4 = (.long i4) := Option.some.inj ei4
  obtain ⟨i5, ei5⟩ := is_v g1429
  obtain rfl : w5 = (.int i5) := Option.some.inj ei5
  have r0 := Cond.before_iff.mp (show rest_1_c.before _ s = true from hrest)
  obtain ⟨u0, r1⟩ := and_e r0
  obtain ⟨u1, r2⟩ := and_e r1
  obtain ⟨u2, r3⟩ := and_e r2
  obtain ⟨u3, r4⟩ := and_e r3
  obtain ⟨u4, r5⟩ := and_e r4
  obtain ⟨u5, r6⟩ := and_e r5
  obtain ⟨u6, r7⟩ := and_e r6
  obtain ⟨u7, r8⟩ := and_e r7
  obtain ⟨sa, esa⟩ := exa_v u7
  have S_dc : Sta s s.heap "java/util/ArrayList" "DEFAULTCAPACITY_EMPTY_ELEMENTDATA" "[Ljava/lang/Object;" (.ref sa) := Sta.start esa (Or.inr ⟨(hw _ (List.mem_of_getElem? (i := 36) rfl)), Cond.before_iff.mpr u2⟩)
  obtain ⟨n, o, h1, h2, h3, _, L, rfl, ⟨hv, N⟩, hq⟩ := own_rm0 l s _ hw tables_1 i0 i1 i2 i3 i4 i5 sa s.heap s.heap.size (Nat.le_refl _) S_dc p e ha hc hk s m _ below hf ((Spec.applies_iff_loose hf).mp happ).1 ⟨rfl, State.Warmed39.refl s, rfl⟩ trivial
  subst hv
  refine ⟨n, _, h1, h2, h3, hpost _ _ _ _ _ _ ⟨Cond.after_iff.mpr rfl, Cond.after_iff.mpr (eq_i res_at (Term.int_eval (1)) rfl), trivial⟩ ⟨hq.1, hq.2.1, hq.2.2.1, (hq.2.2.2.sift fun y hy => Or.inr (N y hy)).mono (by decide) (by decide)⟩⟩
theorem main_1_1 : Claimed_1_1 := comes_1 fun _ _ _ _ _ _ h hF => ⟨h.1, hF⟩
theorem main_1_2 : Claimed_1_2 := comes_1 fun _ _ _ _ _ _ h hF => ⟨h.2.1, hF⟩
end Jvm.Pilot.@@N@@
namespace Jvm.Pilot.@@N@@
open Jvm Jvm.ClassFile Sem Op Lib Jvm.Free Jvm.Stand Jvm.Pilot.@@N@@.Jvm.D
/-! MADE BY PROGRAM (witnessworld.py) out of the Statement's table words and the real class files: 29 classes; the members and pool entries that the words name. The judged class is class 1, her method 1. -/
namespace start1
open Jvm.ClassFile
def u (s : String) : CpInfo := .utf8 (stringToUtf16 s)
/-- a pool by its gaps: so many unusable entries, then the entry; so many at the end -/
def gap : Nat → List CpInfo → List CpInfo
  | 0, r => r
  | n + 1, r => .unusable :: gap n r
def poolList (es : List (Nat × CpInfo)) (last : Nat) : List CpInfo := es.foldr (fun e r => gap e.1 (e.2 :: r)) (gap last [])
def pool (es : List (Nat × CpInfo)) (last : Nat) : Array CpInfo := ⟨poolList es last⟩
def fileOf (pool : Array CpInfo) (this : Nat) (attrs : Array Attribute := #[]) (ms : Array MethodInfo := #[]) (fl : Nat := 33) (sup : Nat := 0) (ifs : Array Nat := #[]) (fds : Array FieldInfo := #[]) : ClassFile where
  minorVersion := 0
  majorVersion := 65
  constantPool := pool
  accessFlags := fl
  thisClass := this
  superClass := sup
  interfaces := ifs
  fields := fds
  methods := ms
  attributes := attrs
def plain (name : String) (sup : Option ClassId) : Class where
  name := name
  kind := .ordinary
  loader := none
  accessFlags := 33
  super := sup
  interfaces := #[]
  cf := none
  fields := #[]
  methods := #[]
  instanceTypes := #[]
  staticTypes := #[]
  resolved := #[]
  callSites := []
  init := .initialized
  statics := none
  mirror := none

def pool0 : Array CpInfo := pool [(5, u "<init>"), (0, u "()V"), (1, .class_ 10), (1, u "java/lang/Object"), (85, u "clone"), (0, u "()Ljava/lang/Object;")] 26

def k0c0 : Code := { maxStack := 0, maxLocals := 1, code := object_method_1_code, exceptionTable := #[], attributes := #[] }
def k0m0 : Method := { name := "<init>", desc := "()V", sig := { parameters := [], returnType := none }, accessFlags := 1, code := some k0c0 }
def k0m1 : Method := { name := "clone", desc := "()Ljava/lang/Object;", sig := { parameters := [], returnType := some (.object "java/lang/Object") }, accessFlags := 260, code := none }
/-- java/lang/Object -/
def k0 : Class := { plain "java/lang/Object" none with
  accessFlags := 33
  interfaces := #[]
  cf := some (fileOf pool0 8 #[] #[{ accessFlags := 1, nameIndex := 5, descriptorIndex := 6, attributes := #[] }, { accessFlags := 260, nameIndex := 96, descriptorIndex := 97, attributes := #[] }] 33 0 #[] #[])
  fields := #[]
  methods := #[k0m0, k0m1]
  instanceTypes := #[]
  staticTypes := #[]
  resolved := Array.replicate 124 none
  statics := none }

def pool1 : Array CpInfo := pool [(2, .class_ 4), (0, .nameAndType 5 6), (0, u "java/lang/Object"), (0, u "<init>"), (0, u "()V"), (0, .methodref 8 9), (0, .class_ 10), (0, .nameAndType 11 12), (0, u "java/lang/Math"), (0, u "min"), (0, u "(II)I"), (0, .methodref 8 14), (0, .nameAndType 15 12), (0, u "max"), (0, .class_ 17), (0, u "com/example/arcwise/arcwise/network/Variable"), (0, .string 19), (0, u "x"), (0, .class_ 21), (0, u "com/example/arcwise/arcwise/network/Trail"), (0, .methodref 20 3), (0, .class_ 24), (0, u "java/util/ArrayList"), (0, .methodref 23 3), (0, .methodref 16 27), (0, .nameAndType 5 28), (0, u "(ILjava/lang/String;[ILcom/example/arcwise/arcwise/network/Trail;Ljava/util/List;)V"), (0, .methodref 16 30), (0, .nameAndType 31 32), (0, u "indexAtLeast"), (0, u "(J)I"), (0, .class_ 34), (0, u "com/example/arcwise/arcwise/network/VariableIndexAtLeastPinLaw"), (2, u "law"), (0, u "(IIIIJI)Z")] 5

def k1m0 : Method := { name := "<init>", desc := "()V", sig := { parameters := [], returnType := none }, accessFlags := 1, code := none }
def k1c1 : Code := { maxStack := 8, maxLocals := 18, code := code, exceptionTable := #[], attributes := #[] }
def k1m1 : Method := { name := "law", desc := "(IIIIJI)Z", sig := { parameters := [.int, .int, .int, .int, .long, .int], returnType := some .boolean }, accessFlags := 9, code := some k1c1 }
/-- com/example/arcwise/arcwise/network/VariableIndexAtLeastPinLaw -/
def k1 : Class := { plain "com/example/arcwise/arcwise/network/VariableIndexAtLeastPinLaw" (some 0) with
  accessFlags := 49
  interfaces := #[]
  cf := some (fileOf pool1 33 #[] #[{ accessFlags := 1, nameIndex := 5, descriptorIndex := 6, attributes := #[] }, { accessFlags := 9, nameIndex := 37, descriptorIndex := 38, attributes := #[] }] 49 2 #[] #[])
  fields := #[]
  methods := #[k1m0, k1m1]
  instanceTypes := #[]
  staticTypes := #[]
  resolved := Array.replicate 44 none
  statics := none }

def pool2 : Array CpInfo := pool [(1, .class_ 2), (0, u "java/lang/Math"), (1, .class_ 6), (1, u "java/lang/Object"), (0, u "<init>"), (0, u "()V"), (89, .class_ 100), (1, u "java/lang/Math$RandomNumberGeneratorHolder"), (71, u "negativeZeroFloatBits"), (0, u "J"), (2, u "negativeZeroDoubleBits"), (21, u "max"), (2, u "min"), (43, u "$assertionsDisabled"), (0, u "Z"), (88, u "(II)I"), (2, u "twoToTheDoubleScaleDown"), (0, u "D"), (4, u "twoToTheDoubleScaleUp"), (9, u "E"), (3, u "PI"), (2, u "TAU"), (2, u "DEGREES_TO_RADIANS"), (0, u "RADIANS_TO_DEGREES")] 94

def k2m0 : Method := { name := "<init>", desc := "()V", sig := { parameters := [], returnType := none }, accessFlags := 2, code := none }
def k2c1 : Code := { maxStack := 2, maxLocals := 2, code := jdk_29_method_65_code, exceptionTable := #[], attributes := #[] }
def k2m1 : Method := { name := "max", desc := "(II)I", sig := { parameters := [.int, .int], returnType := some .int }, accessFlags := 9, code := some k2c1 }
def k2c2 : Code := { maxStack := 2, maxLocals := 2, code := jdk_29_method_69_code, exceptionTable := #[], attributes := #[] }
def k2m2 : Method := { name := "min", desc := "(II)I", sig := { parameters := [.int, .int], returnType := some .int }, accessFlags := 9, code := some k2c2 }
/-- java/lang/Math -/
def k2 : Class := { plain "java/lang/Math" (some 0) with
  accessFlags := 49
  interfaces := #[]
  cf := some (fileOf pool2 1 #[.nestMembers #[98]] #[{ accessFlags := 2, nameIndex := 7, descriptorIndex := 8, attributes := #[] }, { accessFlags := 9, nameIndex := 198, descriptorIndex := 335, attributes := #[] }, { accessFlags := 9, nameIndex := 201, descriptorIndex := 335, attributes := #[] }] 49 4 #[] #[{ accessFlags := 25, nameIndex := 354, descriptorIndex := 339, attributes := #[] }, { accessFlags := 25, nameIndex := 358, descriptorIndex := 339, attributes := #[] }, { accessFlags := 25, nameIndex := 361, descriptorIndex := 339, attributes := #[] }, { accessFlags := 26, nameIndex := 364, descriptorIndex := 339, attributes := #[] }, { accessFlags := 26, nameIndex := 365, descriptorIndex := 339, attributes := #[] }, { accessFlags := 26, nameIndex := 172, descriptorIndex := 173, attributes := #[] }, { accessFlags := 26, nameIndex := 176, descriptorIndex := 173, attributes := #[] }, { accessFlags := 8, nameIndex := 344, descriptorIndex := 339, attributes := #[] }, { accessFlags := 8, nameIndex := 338, descriptorIndex := 339, attributes := #[] }, { accessFlags := 4120, nameIndex := 245, descriptorIndex := 246, attributes := #[] }])
  fields := #[{ name := "E", type := .double, accessFlags := 25, slot := 0, constantValue := 0 }, { name := "PI", type := .double, accessFlags := 25, slot := 1, constantValue := 0 }, { name := "TAU", type := .double, accessFlags := 25, slot := 2, constantValue := 0 }, { name := "DEGREES_TO_RADIANS", type := .double, accessFlags := 26, slot := 3, constantValue := 0 }, { name := "RADIANS_TO_DEGREES", type := .double, accessFlags := 26, slot := 4, constantValue := 0 }, { name := "negativeZeroFloatBits", type := .long, accessFlags := 26, slot := 5, constantValue := 0 }, { name := "negativeZeroDoubleBits", type := .long, accessFlags := 26, slot := 6, constantValue := 0 }, { name := "twoToTheDoubleScaleUp", type := .double, accessFlags := 8, slot := 7, constantValue := 0 }, { name := "twoToTheDoubleScaleDown", type := .double, accessFlags := 8, slot := 8, constantValue := 0 }, { name := "$assertionsDisabled", type := .boolean, accessFlags := 4120, slot := 9, constantValue := 0 }]
  methods := #[k2m0, k2m1, k2m2]
  instanceTypes := #[]
  staticTypes := #[.double, .double, .double, .double, .double, .long, .long, .double, .double, .boolean]
  resolved := Array.replicate 460 none
  statics := none }

def pool3 : Array CpInfo := pool [(1, .methodref 2 3), (0, .class_ 4), (0, .nameAndType 5 6), (0, u "java/lang/Object"), (0, u "<init>"), (0, u "()V"), (0, .class_ 8), (0, u "java/util/ArrayList"), (0, .methodref 7 3), (0, .fieldref 11 12), (0, .class_ 13), (0, .nameAndType 14 15), (0, u "com/example/arcwise/arcwise/network/Variable"), (0, u "constraints"), (0, u "Ljava/util/List;"), (0, .fieldref 11 17), (0, .nameAndType 18 19), (0, u "index"), (0, u "I"), (0, .fieldref 11 21), (0, .nameAndType 22 23), (0, u "name"), (0, u "Ljava/lang/String;"), (0, .methodref 25 26), (0, .class_ 27), (0, .nameAndType 28 29), (0, u "[I"), (0, u "clone"), (0, u "()Ljava/lang/Object;"), (0, .fieldref 11 31), (0, .nameAndType 32 27), (0, u "values"), (0, .class_ 34), (0, u "com/example/arcwise/arcwise/network/Domain"), (0, .methodref 33 36), (0, .nameAndType 5 37), (0, u "(ILcom/example/arcwise/arcwise/network/Trail;)V"), (0, .fieldref 11 39), (0, .nameAndType 40 41), (0, u "domain"), (0, u "Lcom/example/arcwise/arcwise/network/Domain;"), (0, .fieldref 11 43), (0, .nameAndType 44 15), (0, u "assignmentListeners"), (2, u "indexAtLeast"), (0, u "(J)I"), (8, u "assigned"), (0, u "Z"), (36, u "(ILjava/lang/String;[ILcom/example/arcwise/arcwise/network/Trail;Ljava/util/List;)V")] 19

def k3c0 : Code := { maxStack := 5, maxLocals := 6, code := prog_62_method_1_code, exceptionTable := #[], attributes := #[] }
def k3m0 : Method := { name := "<init>", desc := "(ILjava/lang/String;[ILcom/example/arcwise/arcwise/network/Trail;Ljava/util/List;)V", sig := { parameters := [.int, (.object "java/lang/String"), (.array .int), (.object "com/example/arcwise/arcwise/network/Trail"), (.object "java/util/List")], returnType := none }, accessFlags := 0, code := some k3c0 }
def k3c1 : Code := { maxStack := 4, maxLocals := 6, code := prog_62_method_6_code, exceptionTable := #[], attributes := #[] }
def k3m1 : Method := { name := "indexAtLeast", desc := "(J)I", sig := { parameters := [.long], returnType := some .int }, accessFlags := 1, code := some k3c1 }
/-- com/example/arcwise/arcwise/network/Variable -/
def k3 : Class := { plain "com/example/arcwise/arcwise/network/Variable" (some 0) with
  accessFlags := 49
  interfaces := #[]
  cf := some (fileOf pool3 11 #[] #[{ accessFlags := 0, nameIndex := 5, descriptorIndex := 95, attributes := #[] }, { accessFlags := 1, nameIndex := 47, descriptorIndex := 48, attributes := #[] }] 49 2 #[] #[{ accessFlags := 18, nameIndex := 18, descriptorIndex := 19, attributes := #[] }, { accessFlags := 18, nameIndex := 22, descriptorIndex := 23, attributes := #[] }, { accessFlags := 18, nameIndex := 32, descriptorIndex := 27, attributes := #[] }, { accessFlags := 18, nameIndex := 40, descriptorIndex := 41, attributes := #[] }, { accessFlags := 18, nameIndex := 14, descriptorIndex := 15, attributes := #[] }, { accessFlags := 18, nameIndex := 44, descriptorIndex := 15, attributes := #[] }, { accessFlags := 2, nameIndex := 57, descriptorIndex := 58, attributes := #[] }])
  fields := #[{ name := "index", type := .int, accessFlags := 18, slot := 0, constantValue := 0 }, { name := "name", type := (.object "java/lang/String"), accessFlags := 18, slot := 1, constantValue := 0 }, { name := "values", type := (.array .int), accessFlags := 18, slot := 2, constantValue := 0 }, { name := "domain", type := (.object "com/example/arcwise/arcwise/network/Domain"), accessFlags := 18, slot := 3, constantValue := 0 }, { name := "constraints", type := (.object "java/util/List"), accessFlags := 18, slot := 4, constantValue := 0 }, { name := "assignmentListeners", type := (.object "java/util/List"), accessFlags := 18, slot := 5, constantValue := 0 }, { name := "assigned", type := .boolean, accessFlags := 2, slot := 6, constantValue := 0 }]
  methods := #[k3m0, k3m1]
  instanceTypes := #[.int, (.object "java/lang/String"), (.array .int), (.object "com/example/arcwise/arcwise/network/Domain"), (.object "java/util/List"), (.object "java/util/List"), .boolean]
  staticTypes := #[]
  resolved := Array.replicate 115 none
  statics := none }

def pool4 : Array CpInfo := pool [(1, .class_ 2), (0, u "java/io/Serializable"), (0, .class_ 4), (0, u "java/lang/Object")] 2

/-- java/io/Serializable -/
def k4 : Class := { plain "java/io/Serializable" (some 0) with
  accessFlags := 1537
  interfaces := #[]
  cf := some (fileOf pool4 1 #[] #[] 1537 3 #[] #[])
  fields := #[]
  methods := #[]
  instanceTypes := #[]
  staticTypes := #[]
  resolved := Array.replicate 7 none
  statics := none }

def pool5 : Array CpInfo := pool [(1, .class_ 2), (0, u "java/lang/Comparable"), (0, .class_ 4), (0, u "java/lang/Object")] 7

/-- java/lang/Comparable -/
def k5 : Class := { plain "java/lang/Comparable" (some 0) with
  accessFlags := 1537
  interfaces := #[]
  cf := some (fileOf pool5 1 #[] #[] 1537 3 #[] #[])
  fields := #[]
  methods := #[]
  instanceTypes := #[]
  staticTypes := #[]
  resolved := Array.replicate 12 none
  statics := none }

def pool6 : Array CpInfo := pool [(2, .class_ 4), (1, u "java/lang/CharSequence"), (42, .class_ 48), (0, u "java/lang/CharSequence$1CodePointIterator"), (10, .class_ 60), (0, u "java/lang/CharSequence$1CharIterator"), (5, .class_ 67), (0, u "java/lang/Object")] 63

/-- java/lang/CharSequence -/
def k6 : Class := { plain "java/lang/CharSequence" (some 0) with
  accessFlags := 1537
  interfaces := #[]
  cf := some (fileOf pool6 2 #[.nestMembers #[47, 59]] #[] 1537 66 #[] #[])
  fields := #[]
  methods := #[]
  instanceTypes := #[]
  staticTypes := #[]
  resolved := Array.replicate 131 none
  statics := none }

def pool7 : Array CpInfo := pool [(1, .class_ 2), (0, u "java/lang/constant/Constable"), (0, .class_ 4), (0, u "java/lang/Object")] 6

/-- java/lang/constant/Constable -/
def k7 : Class := { plain "java/lang/constant/Constable" (some 0) with
  accessFlags := 1537
  interfaces := #[]
  cf := some (fileOf pool7 1 #[] #[] 1537 3 #[] #[])
  fields := #[]
  methods := #[]
  instanceTypes := #[]
  staticTypes := #[]
  resolved := Array.replicate 11 none
  statics := none }

def pool8 : Array CpInfo := pool [(1, .class_ 2), (0, u "java/lang/constant/ConstantDesc"), (0, .class_ 4), (0, u "java/lang/Object")] 32

/-- java/lang/constant/ConstantDesc -/
def k8 : Class := { plain "java/lang/constant/ConstantDesc" (some 0) with
  accessFlags := 1537
  interfaces := #[]
  cf := some (fileOf pool8 1 #[] #[] 1537 3 #[] #[])
  fields := #[]
  methods := #[]
  instanceTypes := #[]
  staticTypes := #[]
  resolved := Array.replicate 37 none
  statics := none }

def pool9 : Array CpInfo := pool [(2, .class_ 4), (1, u "java/lang/Object"), (0, u "<init>"), (0, u "()V"), (3, .class_ 12), (1, u "java/lang/String"), (0, u "value"), (0, u "[B"), (2, u "coder"), (0, u "B"), (2, u "hash"), (0, u "I"), (2, u "hashIsZero"), (0, u "Z"), (13, u "COMPACT_STRINGS"), (534, .class_ 576), (0, u "java/lang/CharSequence"), (22, u "CASE_INSENSITIVE_ORDER"), (0, u "Ljava/util/Comparator;"), (500, u "serialPersistentFields"), (0, u "[Ljava/io/ObjectStreamField;"), (0, .class_ 1104), (0, u "java/lang/String$CaseInsensitiveComparator"), (1, .class_ 1107), (0, u "java/io/Serializable"), (0, .class_ 1109), (0, u "java/lang/Comparable"), (0, .class_ 1111), (0, u "java/lang/constant/Constable"), (0, .class_ 1113), (0, u "java/lang/constant/ConstantDesc"), (2, u "serialVersionUID"), (0, u "J"), (3, u "REPL"), (0, u "C"), (2, u "LATIN1"), (1, u "UTF16")] 323

def k9m0 : Method := { name := "<init>", desc := "()V", sig := { parameters := [], returnType := none }, accessFlags := 1, code := none }
/-- java/lang/String -/
def k9 : Class := { plain "java/lang/String" (some 0) with
  accessFlags := 49
  interfaces := #[4, 5, 6, 7, 8]
  cf := some (fileOf pool9 10 #[.nestMembers #[1103]] #[{ accessFlags := 1, nameIndex := 5, descriptorIndex := 6, attributes := #[] }] 49 2 #[1106, 1108, 575, 1110, 1112] #[{ accessFlags := 18, nameIndex := 13, descriptorIndex := 14, attributes := #[] }, { accessFlags := 18, nameIndex := 17, descriptorIndex := 18, attributes := #[] }, { accessFlags := 2, nameIndex := 21, descriptorIndex := 22, attributes := #[] }, { accessFlags := 2, nameIndex := 25, descriptorIndex := 26, attributes := #[] }, { accessFlags := 26, nameIndex := 1116, descriptorIndex := 1117, attributes := #[] }, { accessFlags := 24, nameIndex := 40, descriptorIndex := 26, attributes := #[] }, { accessFlags := 26, nameIndex := 1101, descriptorIndex := 1102, attributes := #[] }, { accessFlags := 26, nameIndex := 1121, descriptorIndex := 1122, attributes := #[] }, { accessFlags := 25, nameIndex := 599, descriptorIndex := 600, attributes := #[] }, { accessFlags := 24, nameIndex := 1125, descriptorIndex := 18, attributes := #[] }, { accessFlags := 24, nameIndex := 1127, descriptorIndex := 18, attributes := #[] }])
  fields := #[{ name := "value", type := (.array .byte), accessFlags := 18, slot := 0, constantValue := 0 }, { name := "coder", type := .byte, accessFlags := 18, slot := 1, constantValue := 0 }, { name := "hash", type := .int, accessFlags := 2, slot := 2, constantValue := 0 }, { name := "hashIsZero", type := .boolean, accessFlags := 2, slot := 3, constantValue := 0 }, { name := "serialVersionUID", type := .long, accessFlags := 26, slot := 0, constantValue := 0 }, { name := "COMPACT_STRINGS", type := .boolean, accessFlags := 24, slot := 1, constantValue := 0 }, { name := "serialPersistentFields", type := (.array (.object "java/io/ObjectStreamField")), accessFlags := 26, slot := 2, constantValue := 0 }, { name := "REPL", type := .char, accessFlags := 26, slot := 3, constantValue := 0 }, { name := "CASE_INSENSITIVE_ORDER", type := (.object "java/util/Comparator"), accessFlags := 25, slot := 4, constantValue := 0 }, { name := "LATIN1", type := .byte, accessFlags := 24, slot := 5, constantValue := 0 }, { name := "UTF16", type := .byte, accessFlags := 24, slot := 6, constantValue := 0 }]
  methods := #[k9m0]
  instanceTypes := #[(.array .byte), .byte, .int, .boolean]
  staticTypes := #[.long, .boolean, (.array (.object "java/io/ObjectStreamField")), .char, (.object "java/util/Comparator"), .byte, .byte]
  resolved := Array.replicate 1451 none
  statics := none }

def pool10 : Array CpInfo := pool [(1, .methodref 2 3), (0, .class_ 4), (0, .nameAndType 5 6), (0, u "java/lang/Object"), (0, u "<init>"), (0, u "()V"), (0, .class_ 8), (0, u "com/example/arcwise/arcwise/network/Domain"), (0, .fieldref 10 11), (0, .class_ 12), (0, .nameAndType 13 14), (0, u "com/example/arcwise/arcwise/network/Trail"), (0, u "domains"), (0, u "[Lcom/example/arcwise/arcwise/network/Domain;"), (0, .fieldref 10 16), (0, .nameAndType 17 18), (0, u "indexes"), (0, u "[I"), (2, u "size"), (0, u "I"), (2, u "removals"), (0, u "J")] 25

def k10c0 : Code := { maxStack := 2, maxLocals := 1, code := prog_61_method_1_code, exceptionTable := #[], attributes := #[] }
def k10m0 : Method := { name := "<init>", desc := "()V", sig := { parameters := [], returnType := none }, accessFlags := 1, code := some k10c0 }
/-- com/example/arcwise/arcwise/network/Trail -/
def k10 : Class := { plain "com/example/arcwise/arcwise/network/Trail" (some 0) with
  accessFlags := 49
  interfaces := #[]
  cf := some (fileOf pool10 10 #[] #[{ accessFlags := 1, nameIndex := 5, descriptorIndex := 6, attributes := #[] }] 49 2 #[] #[{ accessFlags := 2, nameIndex := 13, descriptorIndex := 14, attributes := #[] }, { accessFlags := 2, nameIndex := 17, descriptorIndex := 18, attributes := #[] }, { accessFlags := 2, nameIndex := 21, descriptorIndex := 22, attributes := #[] }, { accessFlags := 2, nameIndex := 25, descriptorIndex := 26, attributes := #[] }])
  fields := #[{ name := "domains", type := (.array (.object "com/example/arcwise/arcwise/network/Domain")), accessFlags := 2, slot := 0, constantValue := 0 }, { name := "indexes", type := (.array .int), accessFlags := 2, slot := 1, constantValue := 0 }, { name := "size", type := .int, accessFlags := 2, slot := 2, constantValue := 0 }, { name := "removals", type := .long, accessFlags := 2, slot := 3, constantValue := 0 }]
  methods := #[k10m0]
  instanceTypes := #[(.array (.object "com/example/arcwise/arcwise/network/Domain")), (.array .int), .int, .long]
  staticTypes := #[]
  resolved := Array.replicate 52 none
  statics := none }

def pool11 : Array CpInfo := pool [(1, .methodref 2 3), (0, .class_ 4), (0, .nameAndType 5 6), (0, u "java/lang/Object"), (0, u "<init>"), (0, u "()V"), (0, .fieldref 8 9), (0, .class_ 10), (0, .nameAndType 11 12), (0, u "com/example/arcwise/arcwise/network/Domain"), (0, u "trail"), (0, u "Lcom/example/arcwise/arcwise/network/Trail;"), (0, .fieldref 8 14), (0, .nameAndType 15 16), (0, u "words"), (0, u "[J"), (0, .fieldref 8 18), (0, .nameAndType 19 20), (0, u "initialSize"), (0, u "I"), (0, .fieldref 8 22), (0, .nameAndType 23 20), (0, u "size"), (2, u "changedAt"), (0, u "J"), (49, u "(ILcom/example/arcwise/arcwise/network/Trail;)V")] 14

def k11c0 : Code := { maxStack := 7, maxLocals := 4, code := prog_59_method_1_code, exceptionTable := #[], attributes := #[] }
def k11m0 : Method := { name := "<init>", desc := "(ILcom/example/arcwise/arcwise/network/Trail;)V", sig := { parameters := [.int, (.object "com/example/arcwise/arcwise/network/Trail")], returnType := none }, accessFlags := 0, code := some k11c0 }
/-- com/example/arcwise/arcwise/network/Domain -/
def k11 : Class := { plain "com/example/arcwise/arcwise/network/Domain" (some 0) with
  accessFlags := 49
  interfaces := #[]
  cf := some (fileOf pool11 8 #[] #[{ accessFlags := 0, nameIndex := 5, descriptorIndex := 77, attributes := #[] }] 49 2 #[] #[{ accessFlags := 18, nameIndex := 11, descriptorIndex := 12, attributes := #[] }, { accessFlags := 18, nameIndex := 15, descriptorIndex := 16, attributes := #[] }, { accessFlags := 18, nameIndex := 19, descriptorIndex := 20, attributes := #[] }, { accessFlags := 2, nameIndex := 23, descriptorIndex := 20, attributes := #[] }, { accessFlags := 2, nameIndex := 26, descriptorIndex := 27, attributes := #[] }])
  fields := #[{ name := "trail", type := (.object "com/example/arcwise/arcwise/network/Trail"), accessFlags := 18, slot := 0, constantValue := 0 }, { name := "words", type := (.array .long), accessFlags := 18, slot := 1, constantValue := 0 }, { name := "initialSize", type := .int, accessFlags := 18, slot := 2, constantValue := 0 }, { name := "size", type := .int, accessFlags := 2, slot := 3, constantValue := 0 }, { name := "changedAt", type := .long, accessFlags := 2, slot := 4, constantValue := 0 }]
  methods := #[k11m0]
  instanceTypes := #[(.object "com/example/arcwise/arcwise/network/Trail"), (.array .long), .int, .int, .long]
  staticTypes := #[]
  resolved := Array.replicate 92 none
  statics := none }

def pool12 : Array CpInfo := pool [(8, .class_ 10), (1, u "java/lang/Iterable"), (24, .class_ 36), (0, u "java/lang/Object")] 25

/-- java/lang/Iterable -/
def k12 : Class := { plain "java/lang/Iterable" (some 0) with
  accessFlags := 1537
  interfaces := #[]
  cf := some (fileOf pool12 8 #[] #[] 1537 35 #[] #[])
  fields := #[]
  methods := #[]
  instanceTypes := #[]
  staticTypes := #[]
  resolved := Array.replicate 62 none
  statics := none }

def pool13 : Array CpInfo := pool [(10, .class_ 12), (1, u "java/util/Collection"), (47, .class_ 61), (0, u "java/lang/Object"), (0, .class_ 63), (0, u "java/lang/Iterable")] 51

/-- java/util/Collection -/
def k13 : Class := { plain "java/util/Collection" (some 0) with
  accessFlags := 1537
  interfaces := #[12]
  cf := some (fileOf pool13 10 #[] #[] 1537 60 #[62] #[])
  fields := #[]
  methods := #[]
  instanceTypes := #[]
  staticTypes := #[]
  resolved := Array.replicate 115 none
  statics := none }

def pool14 : Array CpInfo := pool [(1, .methodref 2 3), (0, .class_ 4), (0, .nameAndType 5 6), (0, u "java/lang/Object"), (0, u "<init>"), (0, u "()V"), (1, .class_ 10), (1, u "java/util/AbstractCollection"), (66, .class_ 78), (0, u "java/util/Collection")] 81

def k14c0 : Code := { maxStack := 1, maxLocals := 1, code := jdk_22_method_1_code, exceptionTable := #[], attributes := #[] }
def k14m0 : Method := { name := "<init>", desc := "()V", sig := { parameters := [], returnType := none }, accessFlags := 4, code := some k14c0 }
/-- java/util/AbstractCollection -/
def k14 : Class := { plain "java/util/AbstractCollection" (some 0) with
  accessFlags := 1057
  interfaces := #[13]
  cf := some (fileOf pool14 8 #[] #[{ accessFlags := 4, nameIndex := 5, descriptorIndex := 6, attributes := #[] }] 1057 2 #[77] #[])
  fields := #[]
  methods := #[k14m0]
  instanceTypes := #[]
  staticTypes := #[]
  resolved := Array.replicate 160 none
  statics := none }

def pool15 : Array CpInfo := pool [(8, .class_ 10), (1, u "java/util/SequencedCollection"), (15, .class_ 27), (0, u "java/lang/Object"), (0, .class_ 29), (0, u "java/util/Collection")] 27

/-- java/util/SequencedCollection -/
def k15 : Class := { plain "java/util/SequencedCollection" (some 0) with
  accessFlags := 1537
  interfaces := #[13]
  cf := some (fileOf pool15 8 #[] #[] 1537 26 #[28] #[])
  fields := #[]
  methods := #[]
  instanceTypes := #[]
  staticTypes := #[]
  resolved := Array.replicate 57 none
  statics := none }

def pool16 : Array CpInfo := pool [(8, .class_ 10), (1, u "java/util/List"), (92, .class_ 104), (0, u "java/lang/Object"), (15, .class_ 121), (0, u "java/util/SequencedCollection")] 129

/-- java/util/List -/
def k16 : Class := { plain "java/util/List" (some 0) with
  accessFlags := 1537
  interfaces := #[15]
  cf := some (fileOf pool16 8 #[] #[] 1537 103 #[120] #[])
  fields := #[]
  methods := #[]
  instanceTypes := #[]
  staticTypes := #[]
  resolved := Array.replicate 251 none
  statics := none }

def pool17 : Array CpInfo := pool [(1, .methodref 2 3), (0, .class_ 4), (0, .nameAndType 5 6), (0, u "java/util/AbstractCollection"), (0, u "<init>"), (0, u "()V"), (0, .fieldref 8 9), (0, .class_ 10), (0, .nameAndType 11 12), (0, u "java/util/AbstractList"), (0, u "modCount"), (0, u "I"), (64, .class_ 78), (0, u "java/util/AbstractList$Itr"), (3, .class_ 83), (0, u "java/util/AbstractList$ListItr"), (9, .class_ 94), (0, u "java/util/AbstractList$RandomAccessSubList"), (3, .class_ 99), (0, u "java/util/AbstractList$SubList"), (33, .class_ 134), (0, u "java/util/List"), (73, .class_ 209), (0, u "java/util/AbstractList$SubList$1"), (0, .class_ 211), (0, u "java/util/AbstractList$RandomAccessSpliterator")] 6

def k17c0 : Code := { maxStack := 2, maxLocals := 1, code := jdk_39_method_1_code, exceptionTable := #[], attributes := #[] }
def k17m0 : Method := { name := "<init>", desc := "()V", sig := { parameters := [], returnType := none }, accessFlags := 4, code := some k17c0 }
/-- java/util/AbstractList -/
def k17 : Class := { plain "java/util/AbstractList" (some 14) with
  accessFlags := 1057
  interfaces := #[16]
  cf := some (fileOf pool17 8 #[.nestMembers #[93, 98, 208, 210, 82, 77]] #[{ accessFlags := 4, nameIndex := 5, descriptorIndex := 6, attributes := #[] }] 1057 2 #[133] #[{ accessFlags := 132, nameIndex := 11, descriptorIndex := 12, attributes := #[] }])
  fields := #[{ name := "modCount", type := .int, accessFlags := 132, slot := 0, constantValue := 0 }]
  methods := #[k17m0]
  instanceTypes := #[.int]
  staticTypes := #[]
  resolved := Array.replicate 218 none
  statics := none }

def pool18 : Array CpInfo := pool [(1, .class_ 2), (0, u "java/util/RandomAccess"), (0, .class_ 4), (0, u "java/lang/Object")] 2

/-- java/util/RandomAccess -/
def k18 : Class := { plain "java/util/RandomAccess" (some 0) with
  accessFlags := 1537
  interfaces := #[]
  cf := some (fileOf pool18 1 #[] #[] 1537 3 #[] #[])
  fields := #[]
  methods := #[]
  instanceTypes := #[]
  staticTypes := #[]
  resolved := Array.replicate 7 none
  statics := none }

def pool19 : Array CpInfo := pool [(1, .class_ 2), (0, u "java/lang/Cloneable"), (0, .class_ 4), (0, u "java/lang/Object")] 2

/-- java/lang/Cloneable -/
def k19 : Class := { plain "java/lang/Cloneable" (some 0) with
  accessFlags := 1537
  interfaces := #[]
  cf := some (fileOf pool19 1 #[] #[] 1537 3 #[] #[])
  fields := #[]
  methods := #[]
  instanceTypes := #[]
  staticTypes := #[]
  resolved := Array.replicate 7 none
  statics := none }

def pool20 : Array CpInfo := pool [(1, .methodref 2 3), (0, .class_ 4), (0, .nameAndType 5 6), (0, u "java/util/AbstractList"), (0, u "<init>"), (0, u "()V"), (2, .fieldref 10 11), (0, .class_ 12), (0, .nameAndType 13 14), (0, u "java/util/ArrayList"), (0, u "elementData"), (0, u "[Ljava/lang/Object;"), (2, u "EMPTY_ELEMENTDATA"), (21, .fieldref 10 40), (0, .nameAndType 41 14), (0, u "DEFAULTCAPACITY_EMPTY_ELEMENTDATA"), (8, u "size"), (0, u "I"), (96, .class_ 149), (0, u "java/util/List"), (112, .class_ 263), (0, u "java/util/ArrayList$ListItr"), (3, .class_ 268), (0, u "java/util/ArrayList$Itr"), (7, .class_ 277), (0, u "java/util/ArrayList$SubList"), (12, .class_ 291), (0, u "java/util/ArrayList$ArrayListSpliterator"), (37, .class_ 330), (0, u "java/util/RandomAccess"), (0, .class_ 332), (0, u "java/lang/Cloneable"), (0, .class_ 334), (0, u "java/io/Serializable"), (0, u "serialVersionUID"), (0, u "J"), (3, u "DEFAULT_CAPACITY"), (159, .class_ 501), (0, u "java/util/ArrayList$SubList$2"), (0, .class_ 503), (0, u "java/util/ArrayList$SubList$1")] 5

def k20c0 : Code := { maxStack := 2, maxLocals := 1, code := jdk_38_method_2_code, exceptionTable := #[], attributes := #[] }
def k20m0 : Method := { name := "<init>", desc := "()V", sig := { parameters := [], returnType := none }, accessFlags := 1, code := some k20c0 }
/-- java/util/ArrayList -/
def k20 : Class := { plain "java/util/ArrayList" (some 17) with
  accessFlags := 33
  interfaces := #[16, 18, 19, 4]
  cf := some (fileOf pool20 10 #[.nestMembers #[290, 276, 500, 502, 262, 267]] #[{ accessFlags := 1, nameIndex := 5, descriptorIndex := 6, attributes := #[] }] 33 2 #[148, 329, 331, 333] #[{ accessFlags := 26, nameIndex := 335, descriptorIndex := 336, attributes := #[] }, { accessFlags := 26, nameIndex := 340, descriptorIndex := 51, attributes := #[] }, { accessFlags := 26, nameIndex := 17, descriptorIndex := 14, attributes := #[] }, { accessFlags := 26, nameIndex := 41, descriptorIndex := 14, attributes := #[] }, { accessFlags := 128, nameIndex := 13, descriptorIndex := 14, attributes := #[] }, { accessFlags := 2, nameIndex := 50, descriptorIndex := 51, attributes := #[] }])
  fields := #[{ name := "serialVersionUID", type := .long, accessFlags := 26, slot := 0, constantValue := 0 }, { name := "DEFAULT_CAPACITY", type := .int, accessFlags := 26, slot := 1, constantValue := 0 }, { name := "EMPTY_ELEMENTDATA", type := (.array (.object "java/lang/Object")), accessFlags := 26, slot := 2, constantValue := 0 }, { name := "DEFAULTCAPACITY_EMPTY_ELEMENTDATA", type := (.array (.object "java/lang/Object")), accessFlags := 26, slot := 3, constantValue := 0 }, { name := "elementData", type := (.array (.object "java/lang/Object")), accessFlags := 128, slot := 1, constantValue := 0 }, { name := "size", type := .int, accessFlags := 2, slot := 2, constantValue := 0 }]
  methods := #[k20m0]
  instanceTypes := #[.int, (.array (.object "java/lang/Object")), .int]
  staticTypes := #[.long, .int, (.array (.object "java/lang/Object")), (.array (.object "java/lang/Object"))]
  resolved := Array.replicate 509 none
  statics := some 0 }

/-- the primitive byte -/
def k21 : Class := { plain "byte" none with kind := .primitive 'B', accessFlags := 0x411 }
/-- [B -/
def k22 : Class := { plain "[B" (some 0) with kind := .array 21 .byte, interfaces := #[19, 4], accessFlags := 1041 }

/-- the primitive int -/
def k23 : Class := { plain "int" none with kind := .primitive 'I', accessFlags := 0x411 }
/-- [I -/
def k24 : Class := { plain "[I" (some 0) with kind := .array 23 .int, interfaces := #[19, 4], accessFlags := 1041 }

/-- the primitive long -/
def k25 : Class := { plain "long" none with kind := .primitive 'J', accessFlags := 0x411 }
/-- [J -/
def k26 : Class := { plain "[J" (some 0) with kind := .array 25 .long, interfaces := #[19, 4], accessFlags := 1041 }

/-- [Lcom/example/arcwise/arcwise/network/Domain; -/
def k27 : Class := { plain "[Lcom/example/arcwise/arcwise/network/Domain;" (some 0) with kind := .array 11 (.object "com/example/arcwise/arcwise/network/Domain"), interfaces := #[19, 4], accessFlags := 1041 }

/-- [Ljava/lang/Object; -/
def k28 : Class := { plain "[Ljava/lang/Object;" (some 0) with kind := .array 0 (.object "java/lang/Object"), interfaces := #[19, 4], accessFlags := 1041 }

def heap : Heap := #[{ cls := 20, slots := #[.long 0, .int 0, .ref 1, .ref 2], vm := .statics 20 },
  { cls := 28, slots := #[], vm := .none },
  { cls := 28, slots := #[], vm := .none }]
def classes : Array Class := #[k0, k1, k2, k3, k4, k5, k6, k7, k8, k9, k10, k11, k12, k13, k14, k15, k16, k17, k18, k19, k20, k21, k22, k23, k24, k25, k26, k27, k28]
def interned : List (Array UInt16 × Addr) := []
def slotsUsed : Nat := 4
def theMethod : MethodId := ⟨1, 1⟩
def args0 : Array Value := #[.int 3, .int 4, .int 5, .int 6, .long 9, .int 8]
def aboutOver (below : List Frame) : State where
  vm := { classes := classes, interned := interned.toArray }
  heap := heap
  slotsUsed := slotsUsed
  threads := #[{ frames := .invoking theMethod args0 :: below }]
def below0 : List Frame := [.native { method := ⟨0, 0⟩, args := #[] }]
def about1 : State := aboutOver below0
def p0 : Program := .bare "" "" ""
def e0 : Env := launch0.env 0 0 0
theorem w_frames : about1.frames = Frame.invoking theMethod args0 :: below0 := rfl
set_option maxRecDepth 65536 in
theorem w_args : argsFit about1.vm theMethod args0 = true := by decide +kernel
set_option maxRecDepth 65536 in
theorem w_heap : heapFits about1 = true := by decide +kernel
set_option maxRecDepth 65536 in
theorem w_runnable : about1.curStatus? = some .runnable := by decide +kernel
set_option maxRecDepth 65536 in
theorem w_alone : about1.alone = true := by decide +kernel
set_option maxRecDepth 65536 in
theorem w_named : about1.methodNamed? x = some theMethod := by decide +kernel
set_option maxRecDepth 65536 in
theorem w_hears : about1.hears theMethod below0 = true := by decide +kernel
set_option maxRecDepth 65536 in
theorem w_ripe : about1.ripe theMethod args0 below0 = true := by decide +kernel
theorem w_running : about1.status = .running := rfl
set_option maxRecDepth 65536 in
theorem w_room : about1.hasRoom e0.platform room_1 = true :=
  launch0.hasRoom_least _ room_1 (by decide +kernel) (by decide +kernel) (by decide +kernel) (by decide +kernel) (by decide +kernel) (by decide +kernel)
theorem allAtoms_all (ts : List Jvm.Cond) (a : Array Jvm.Value) (st : Jvm.State) : (allAtoms ts).before a st = ts.all (fun c => c.before a st) := by
  induction ts with
  | nil => rfl
  | cons c t ih =>
    show (Jvm.Cond.and c (allAtoms t)).before a st = _
    rw [Jvm.Cond.before_and, ih, List.all_cons]
def words1 : List Jvm.Cond := Jvm.Cond.code x code maxLocals ret :: tables_1
/-- a 'code' word, met by the world's own term for the bytes: nothing is compared byte by byte -/
theorem code_word {y : MethodName} {bytes : ByteArray} {mx : Nat} {rt : Option FieldType} {a : Array Value} {s : State} {m : MethodId} {meth : Method} {c : Code} (h1 : s.methodNamed? y = some m) (h2 : s.vm.method? m = some meth) (h3 : meth.code = some c) (h4 : c.code = bytes)
    (h5 : (c.maxLocals == mx && c.exceptionTable.isEmpty && decide (c.maxStack ≤ mostOperands) && decide (meth.sig.returnType = rt) && !meth.locks && decide (parseMethodDescriptor y.desc = some meth.sig)) = true) : (Jvm.Cond.code y bytes mx rt).before a s = true := by
  simp only [Bool.and_eq_true, beq_iff_eq, Bool.not_eq_true', decide_eq_true_eq] at h5
  obtain ⟨⟨⟨⟨⟨g1, g2⟩, g3⟩, g4⟩, g5⟩, g6⟩ := h5
  simp [Cond.before, Cond.holds, Cond.value, h1, h2, h3, h4, g1, g2, g3, g4, g5, g6]
def isCode : Jvm.Cond → Bool
  | .code _ _ _ _ => true
  | _ => false
theorem all_split {L : List Jvm.Cond} {P : Jvm.Cond → Bool} (h1 : L.all (fun c => isCode c || P c) = true) (h2 : ∀ c ∈ L.filter isCode, P c = true) : L.all P = true := by
  refine List.all_eq_true.mpr fun c hc => ?_
  have h := List.all_eq_true.mp h1 c hc
  rcases Bool.eq_false_or_eq_true (isCode c) with hi | hi
  · exact h2 c (List.mem_filter.mpr ⟨hc, hi⟩)
  · simpa [hi] using h
set_option maxRecDepth 65536 in
theorem w_c0 : (Jvm.Cond.code x code maxLocals ret).before args0 about1 = true := code_word (m := ⟨1, 1⟩) (meth := k1m1) (c := k1c1) (by decide +kernel) rfl rfl rfl (by decide +kernel)
set_option maxRecDepth 65536 in
theorem w_c1 : (Jvm.Cond.code ({ cls := "java/lang/Math", name := "min", desc := "(II)I" } : Jvm.MethodName) jdk_29_method_69_code (2 : Nat) (Option.some Jvm.ClassFile.FieldType.int)).before args0 about1 = true := code_word (m := ⟨2, 2⟩) (meth := k2m2) (c := k2c2) (by decide +kernel) rfl rfl rfl (by decide +kernel)
set_option maxRecDepth 65536 in
theorem w_c2 : (Jvm.Cond.code ({ cls := "java/lang/Math", name := "max", desc := "(II)I" } : Jvm.MethodName) jdk_29_method_65_code (2 : Nat) (Option.some Jvm.ClassFile.FieldType.int)).before args0 about1 = true := code_word (m := ⟨2, 1⟩) (meth := k2m1) (c := k2c1) (by decide +kernel) rfl rfl rfl (by decide +kernel)
set_option maxRecDepth 65536 in
theorem w_c3 : (Jvm.Cond.code ({ cls := "com/example/arcwise/arcwise/network/Trail", name := "<init>", desc := "()V" } : Jvm.MethodName) prog_61_method_1_code (1 : Nat) (Option.none : Option Jvm.ClassFile.FieldType)).before args0 about1 = true := code_word (m := ⟨10, 0⟩) (meth := k10m0) (c := k10c0) (by decide +kernel) rfl rfl rfl (by decide +kernel)
set_option maxRecDepth 65536 in
theorem w_c4 : (Jvm.Cond.code ({ cls := "java/lang/Object", name := "<init>", desc := "()V" } : Jvm.MethodName) object_method_1_code (1 : Nat) (Option.none : Option Jvm.ClassFile.FieldType)).before args0 about1 = true := code_word (m := ⟨0, 0⟩) (meth := k0m0) (c := k0c0) (by decide +kernel) rfl rfl rfl (by decide +kernel)
set_option maxRecDepth 65536 in
theorem w_c5 : (Jvm.Cond.code ({ cls := "java/util/ArrayList", name := "<init>", desc := "()V" } : Jvm.MethodName) jdk_38_method_2_code (1 : Nat) (Option.none : Option Jvm.ClassFile.FieldType)).before args0 about1 = true := code_word (m := ⟨20, 0⟩) (meth := k20m0) (c := k20c0) (by decide +kernel) rfl rfl rfl (by decide +kernel)
set_option maxRecDepth 65536 in
theorem w_c6 : (Jvm.Cond.code ({ cls := "java/util/AbstractList", name := "<init>", desc := "()V" } : Jvm.MethodName) jdk_39_method_1_code (1 : Nat) (Option.none : Option Jvm.ClassFile.FieldType)).before args0 about1 = true := code_word (m := ⟨17, 0⟩) (meth := k17m0) (c := k17c0) (by decide +kernel) rfl rfl rfl (by decide +kernel)
set_option maxRecDepth 65536 in
theorem w_c7 : (Jvm.Cond.code ({ cls := "java/util/AbstractCollection", name := "<init>", desc := "()V" } : Jvm.MethodName) jdk_22_method_1_code (1 : Nat) (Option.none : Option Jvm.ClassFile.FieldType)).before args0 about1 = true := code_word (m := ⟨14, 0⟩) (meth := k14m0) (c := k14c0) (by decide +kernel) rfl rfl rfl (by decide +kernel)
set_option maxRecDepth 65536 in
theorem w_c8 : (Jvm.Cond.code ({ cls := "com/example/arcwise/arcwise/network/Variable", name := "<init>", desc := "(ILjava/lang/String;[ILcom/example/arcwise/arcwise/network/Trail;Ljava/util/List;)V" } : Jvm.MethodName) prog_62_method_1_code (6 : Nat) (Option.none : Option Jvm.ClassFile.FieldType)).before args0 about1 = true := code_word (m := ⟨3, 0⟩) (meth := k3m0) (c := k3c0) (by decide +kernel) rfl rfl rfl (by decide +kernel)
set_option maxRecDepth 65536 in
theorem w_c9 : (Jvm.Cond.code ({ cls := "com/example/arcwise/arcwise/network/Domain", name := "<init>", desc := "(ILcom/example/arcwise/arcwise/network/Trail;)V" } : Jvm.MethodName) prog_59_method_1_code (4 : Nat) (Option.none : Option Jvm.ClassFile.FieldType)).before args0 about1 = true := code_word (m := ⟨11, 0⟩) (meth := k11m0) (c := k11c0) (by decide +kernel) rfl rfl rfl (by decide +kernel)
set_option maxRecDepth 65536 in
theorem w_c10 : (Jvm.Cond.code ({ cls := "com/example/arcwise/arcwise/network/Variable", name := "indexAtLeast", desc := "(J)I" } : Jvm.MethodName) prog_62_method_6_code (6 : Nat) (Option.some Jvm.ClassFile.FieldType.int)).before args0 about1 = true := code_word (m := ⟨3, 1⟩) (meth := k3m1) (c := k3c1) (by decide +kernel) rfl rfl rfl (by decide +kernel)
def codes1 : List Jvm.Cond := [Jvm.Cond.code x code maxLocals ret, Jvm.Cond.code ({ cls := "java/lang/Math", name := "min", desc := "(II)I" } : Jvm.MethodName) jdk_29_method_69_code (2 : Nat) (Option.some Jvm.ClassFile.FieldType.int), Jvm.Cond.code ({ cls := "java/lang/Math", name := "max", desc := "(II)I" } : Jvm.MethodName) jdk_29_method_65_code (2 : Nat) (Option.some Jvm.ClassFile.FieldType.int), Jvm.Cond.code ({ cls := "com/example/arcwise/arcwise/network/Trail", name := "<init>", desc := "()V" } : Jvm.MethodName) prog_61_method_1_code (1 : Nat) (Option.none : Option Jvm.ClassFile.FieldType), Jvm.Cond.code ({ cls := "java/lang/Object", name := "<init>", desc := "()V" } : Jvm.MethodName) object_method_1_code (1 : Nat) (Option.none : Option Jvm.ClassFile.FieldType), Jvm.Cond.code ({ cls := "java/util/ArrayList", name := "<init>", desc := "()V" } : Jvm.MethodName) jdk_38_method_2_code (1 : Nat) (Option.none : Option Jvm.ClassFile.FieldType), Jvm.Cond.code ({ cls := "java/util/AbstractList", name := "<init>", desc := "()V" } : Jvm.MethodName) jdk_39_method_1_code (1 : Nat) (Option.none : Option Jvm.ClassFile.FieldType), Jvm.Cond.code ({ cls := "java/util/AbstractCollection", name := "<init>", desc := "()V" } : Jvm.MethodName) jdk_22_method_1_code (1 : Nat) (Option.none : Option Jvm.ClassFile.FieldType), Jvm.Cond.code ({ cls := "com/example/arcwise/arcwise/network/Variable", name := "<init>", desc := "(ILjava/lang/String;[ILcom/example/arcwise/arcwise/network/Trail;Ljava/util/List;)V" } : Jvm.MethodName) prog_62_method_1_code (6 : Nat) (Option.none : Option Jvm.ClassFile.FieldType), Jvm.Cond.code ({ cls := "com/example/arcwise/arcwise/network/Domain", name := "<init>", desc := "(ILcom/example/arcwise/arcwise/network/Trail;)V" } : Jvm.MethodName) prog_59_method_1_code (4 : Nat) (Option.none : Option Jvm.ClassFile.FieldType), Jvm.Cond.code ({ cls := "com/example/arcwise/arcwise/network/Variable", name := "indexAtLeast", desc := "(J)I" } : Jvm.MethodName) prog_62_method_6_code (6 : Nat) (Option.some Jvm.ClassFile.FieldType.int)]
set_option maxRecDepth 65536 in
theorem codes_eq : words1.filter isCode = codes1 := rfl
theorem w_codes : ∀ c ∈ words1.filter isCode, c.before args0 about1 = true := by
  rw [codes_eq]
  intro c hc
  simp only [codes1, List.mem_cons, List.not_mem_nil, or_false] at hc
  rcases hc with rfl | rfl | rfl | rfl | rfl | rfl | rfl | rfl | rfl | rfl | rfl
  · exact w_c0
  · exact w_c1
  · exact w_c2
  · exact w_c3
  · exact w_c4
  · exact w_c5
  · exact w_c6
  · exact w_c7
  · exact w_c8
  · exact w_c9
  · exact w_c10
set_option maxRecDepth 65536 in
theorem w_t1 : (words1.take 24).all (fun c => isCode c || c.before args0 about1) = true := by decide +kernel
set_option maxRecDepth 65536 in
theorem w_t2 : ((words1.drop 24).take 24).all (fun c => isCode c || c.before args0 about1) = true := by decide +kernel
set_option maxRecDepth 65536 in
theorem w_t3 : (((words1.drop 24).drop 24).take 24).all (fun c => isCode c || c.before args0 about1) = true := by decide +kernel
set_option maxRecDepth 65536 in
theorem w_t4 : ((((words1.drop 24).drop 24).drop 24).take 24).all (fun c => isCode c || c.before args0 about1) = true := by decide +kernel
set_option maxRecDepth 65536 in
theorem w_t5 : ((((words1.drop 24).drop 24).drop 24).drop 24).all (fun c => isCode c || c.before args0 about1) = true := by decide +kernel
theorem w_tables : (allAtoms (Jvm.Cond.code x code maxLocals ret :: tables_1)).before args0 about1 = true := by
  rw [allAtoms_all]
  show words1.all (fun c => c.before args0 about1) = true
  refine all_split ?_ w_codes
  rw [← List.take_append_drop 24 words1, List.all_append, w_t1, ← List.take_append_drop 24 (words1.drop 24), List.all_append, w_t2, ← List.take_append_drop 24 ((words1.drop 24).drop 24), List.all_append, w_t3, ← List.take_append_drop 24 (((words1.drop 24).drop 24).drop 24), List.all_append, w_t4, w_t5]
  rfl
set_option maxRecDepth 65536 in
theorem w_rest : rest_1_c.before args0 about1 = true := by decide +kernel
set_option maxRecDepth 65536 in
theorem w_case : (Jvm.Cond.and given_1 narrow_1).before args0 about1 = true := by decide +kernel
theorem w_applies : (headSpec (Jvm.Cond.code x code maxLocals ret :: tables_1) room_1).applies x e0.platform about1 = true :=
  (Spec.applies_iff w_frames).mpr ⟨w_running, w_runnable, w_alone, w_named, w_hears, w_ripe, w_room, w_tables⟩
theorem atStart : AtStart classFile x code maxLocals ret World_1 tables_1 room_1 Calls_1 rest_1 Pre_1 launch0 p0 e0 about1 theMethod args0 below0 :=
  ⟨lists_1, trivial, launch0.admits_env _ _ _, launch0.least_env, fairChoices_fair.cas, fairChoices_fair.clock, w_frames, w_args, w_heap, w_applies, trivial, w_rest, w_case⟩
end start1
theorem witness_1 : WitnessClaimed_1 := ⟨start1.p0, start1.e0, start1.about1, start1.theMethod, start1.args0, start1.below0, start1.atStart⟩
end Jvm.Pilot.@@N@@
